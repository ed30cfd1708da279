import JvmDerived
import JvmDerived.Pilot.@@N@@Statement
import JvmDerived.Pilot.@@N@@Code
set_option linter.unusedVariables false
set_option linter.unusedSimpArgs false
@@BLOCK:NumsL.lean.txt@@
namespace Jvm.RoadKit
open Sem ClassFile Op Lib Jvm.Stand Jvm.Free Jvm.LawKit
section New
variable {p : Program} {l : Launch} {e : Env} {R : Room} {s : State} {m : MethodId} {args : Array Value} {below : List Frame} {meth : Method} {c : Code} {T : State} {locs : List Loc} {cells slots : Nat}
theorem retI (X : Stand p l e R s m args below meth c T locs cells slots) (hx : p.tables.exec = Jvm.exec) {pc : Nat} {Ls : Array Slot} {z : Int32} {rest : List Value} (hret : meth.sig.returnType = some .int) (hd : decode c.code pc = .ok (.ireturn, 1)) {fs : List Frame}
    (hl : ∀ (f : JFrame) (acts : List Action), f.method = m → f.locked = none → f.entered = [] → (doReturn e (T.setTop f) acts (some (.int z))).1 = T.setFrames fs) : Steps p.tables e below (T.setTop (mkF m pc Ls (.int z :: rest))) (T.setFrames fs) := by
  have hm' : T.vm.method? m = some meth := X.method'
  have hn : narrow .int (.int z) = .int z := rfl
  show Steps p.tables e below (T.setTop { method := m, pc := pc, locals := Ls, stack := _ :: rest, locked := none }) _
  jvm_step X.here [X.here.top, hx, hd, hm', hret, hn]
  first | (intro acts; rw [hl _ acts rfl rfl rfl]) | rw [hl _ _ rfl rfl rfl]
  exact Steps.refl _
def own_irem (x y : Int32) : Int32 := x - x / y * y
def own_lrem (x y : Int64) : Int64 := x - x / y * y
theorem own_retZ (X : Stand p l e R s m args below meth c T locs cells slots) (hx : p.tables.exec = Jvm.exec) {pc : Nat} {Ls : Array Slot} {z : Int32} {rest : List Value} (hret : meth.sig.returnType = some .boolean) (hz : z &&& 1 = z) (hd : decode c.code pc = .ok (.ireturn, 1)) {fs : List Frame}
    (hl : ∀ (f : JFrame) (acts : List Action), f.method = m → f.locked = none → f.entered = [] → (doReturn e (T.setTop f) acts (some (.int z))).1 = T.setFrames fs) : Steps p.tables e below (T.setTop (mkF m pc Ls (.int z :: rest))) (T.setFrames fs) :=
  retN X hx (t := .boolean) hret (by simp) hd (by rw [show nar .boolean z = z from hz]; exact hl)
theorem own_ite_bool {q : Prop} [Decidable q] {a b : Int32} (ha : a &&& 1 = a) (hb : b &&& 1 = b) : (if q then a else b) &&& 1 = (if q then a else b) := by split <;> assumption
theorem own_retJ (X : Stand p l e R s m args below meth c T locs cells slots) (hx : p.tables.exec = Jvm.exec) {pc : Nat} {Ls : Array Slot} {z : Int64} {rest : List Value} (hret : meth.sig.returnType = some .long) (hd : decode c.code pc = .ok (.lreturn, 1)) {fs : List Frame}
    (hl : ∀ (f : JFrame) (acts : List Action), f.method = m → f.locked = none → f.entered = [] → (doReturn e (T.setTop f) acts (some (.long z))).1 = T.setFrames fs) : Steps p.tables e below (T.setTop (mkF m pc Ls (.long z :: rest))) (T.setFrames fs) := by
  have hm' : T.vm.method? m = some meth := X.method'
  show Steps p.tables e below (T.setTop { method := m, pc := pc, locals := Ls, stack := _ :: rest, locked := none }) _
  jvm_step X.here [X.here.top, hx, hd, hm', hret, narrow]
  first | (intro acts; rw [hl _ acts rfl rfl rfl]) | rw [hl _ _ rfl rfl rfl]
  exact Steps.refl _
/-- the run goes from here to a state of which P holds -/
def own_Goes (tb : Tables) (e : Env) (below : List Frame) (P : State → Prop) (T : State) (f : JFrame) : Prop :=
  ∃ u, P u ∧ ∀ t, Steps tb e below u t → Steps tb e below (T.setTop f) t
theorem own_go {tb : Tables} {P : State → Prop} {T T' : State} {f f' : JFrame} (k : own_Goes tb e below P T' f') (h : ∀ t, Steps tb e below (T'.setTop f') t → Steps tb e below (T.setTop f) t) : own_Goes tb e below P T f := by
  obtain ⟨u, hu, hk⟩ := k
  exact ⟨u, hu, fun t q => h t (hk t q)⟩
theorem own_out {tb : Tables} {Q : Outcome → State → Prop} {T : State} {f : JFrame} (k : own_Goes tb e below (fun u => ∃ o, u.status = .running ∧ Ended u below o ∧ Q o u) T f) :
    ∃ s₂ o, Steps tb e below (T.setTop f) s₂ ∧ s₂.status = .running ∧ Ended s₂ below o ∧ Q o s₂ := by
  obtain ⟨u, ⟨o, h1, h2, h3⟩, hk⟩ := k
  exact ⟨u, o, hk u (Steps.refl _), h1, h2, h3⟩
theorem own_lsw {tb : Tables} [Ours tb] {T target : State} {g : JFrame} (h : At T m c below) (hx : tb.exec = Jvm.exec) (hg : g.method = m) {dflt : Int} {pairs : Array (Int × Int)} {len : Nat} {o : Int} {pc0 pc' : Nat} (hpc : g.pc = pc0) (hd : decode c.code g.pc = .ok (.lookupswitch dflt pairs, len)) {i : Int32} {rest : List Value} (hs : g.stack = .int i :: rest)
    (hord : (pairs.toList.zip (pairs.toList.drop 1)).all (fun (a, next) => a.1 < next.1) = true) (hoff : lookupswitch.offset pairs.toList dflt i.toInt = o) (ho : 0 ≤ (pc0 : Int) + o) (hp : ((pc0 : Int) + o).toNat = pc')
    (hr : Steps tb e below (T.setTop { g with pc := pc', stack := rest }) target) : Steps tb e below (T.setTop g) target := by
  subst hg hpc hp
  jvm_step h [h.top, hx, hd, hs, hoff, ho, lookupswitch.wp_chain]
  exact ⟨by simpa using hord, hr⟩
theorem own_ne_key {i k : Int32} (h : ¬ i = k) : ¬ (k.toInt = i.toInt) := fun q => h (Int32.toInt_inj.mp q.symm)
theorem own_selP {s : State} {args : Array Value} {y : MethodName} {n : Nat} (wi : (Cond.instantiable y.cls n).before args s = true) (hp : s.PrivateAt y) (hi : (Cond.instanceMethod y).before args s = true) (hy : y.cls ≠ "java/lang/invoke/MethodHandle" ∧ y.cls ≠ "java/lang/invoke/VarHandle") : (Cond.selects y.cls y y).before args s = true := by
  obtain ⟨c, k, h1, h2, -, h3, -⟩ := Cond.instantiable_spec wi
  simp only [Bool.or_eq_false_iff] at h3
  exact selects_self_of_private h1 h2 h3.1 hp hi hy
end New
end Jvm.RoadKit
namespace Jvm.RoadKit
open Sem ClassFile Op Lib Jvm.Stand Jvm.Free Jvm.LawKit
theorem own_lt32 {x y : Int32} : x < y ↔ x.toInt < y.toInt := Int32.lt_iff_toInt_lt
theorem own_eq32 {x y : Int32} : x = y ↔ x.toInt = y.toInt := (Int32.toInt_inj).symm
theorem own_mod32 (x y : Int32) : (own_irem x y).toInt = x.toInt.tmod y.toInt := by
  rw [show own_irem x y = x % y from irem_eq_mod x y]; exact Int32.toInt_mod x y
theorem own_pos31 (x : Int32) : (x &&& (2147483647 : Int32)).toInt = x.toInt % 2147483648 := Jvm.Kit.i32_mask x 2147483647 (k := 31) (by decide) (by decide)
theorem own_rem31 (x : Int32) (y : Int32) (hy : 0 < y.toInt) : (own_irem (x &&& (2147483647 : Int32)) y).toInt = (x.toInt % 2147483648) % y.toInt := by
  rw [own_mod32, own_pos31, Int.tmod_eq_emod_of_nonneg (by omega)]
theorem own_and3 (x : Int32) : (x &&& (3 : Int32)).toInt = x.toInt % 4 := Jvm.Kit.i32_mask x 3 (k := 2) (by decide) (by decide)
theorem own_and7 (x : Int32) : (x &&& (7 : Int32)).toInt = x.toInt % 8 := Jvm.Kit.i32_mask x 7 (k := 3) (by decide) (by decide)
theorem own_and63 (x : Int32) : (x &&& (63 : Int32)).toInt = x.toInt % 64 := Jvm.Kit.i32_mask x 63 (k := 6) (by decide) (by decide)
theorem own_and255 (x : Int32) : (x &&& (255 : Int32)).toInt = x.toInt % 256 := Jvm.Kit.i32_mask x 255 (k := 8) (by decide) (by decide)
theorem own_add_ok {x y : Int32} (h1 : -2147483648 ≤ x.toInt + y.toInt) (h2 : x.toInt + y.toInt < 2147483648) : (x + y).toInt = x.toInt + y.toInt := Jvm.Kit.i32_add (by omega) (by omega)
theorem own_sub_ok {x y : Int32} (h1 : -2147483648 ≤ x.toInt - y.toInt) (h2 : x.toInt - y.toInt < 2147483648) : (x - y).toInt = x.toInt - y.toInt := Jvm.Kit.i32_sub (by omega) (by omega)
theorem own_nat32 {x : Int32} (h : 0 ≤ x.toInt) : (x.toNatClampNeg : Int) = x.toInt := by simp only [Int32.toNatClampNeg]; omega
theorem own_rng (x : Int32) : -2147483648 ≤ x.toInt ∧ x.toInt < 2147483648 := ⟨x.le_toInt, x.toInt_lt⟩
theorem own_m3 (y : Int32) : ¬ (y &&& (3 : Int32)) < (0 : Int32) ∧ (y &&& (3 : Int32)).toNatClampNeg ≤ 3 := by
  have e := own_and3 y
  refine ⟨?_, ?_⟩
  · rw [own_lt32, e, show (0 : Int32).toInt = 0 from rfl]; omega
  · have := own_nat32 (x := y &&& 3) (by omega); omega
end Jvm.RoadKit
namespace Jvm.RoadKit
open Sem ClassFile Op Lib Jvm.Stand Jvm.Free Jvm.LawKit
section OwnArr
variable {p : Program} {l : Launch} {e : Env} {R : Room} {s : State} {m : MethodId} {args : Array Value} {below : List Frame} {meth : Method} {c : Code} {T : State} {locs : List Loc} {cells slots : Nat}
variable {Z : State} {h h' : Heap} {a b : Addr} {sl : Nat} {v : Value} {ws : List Addr} {n : Int32} {L : List Int32} {M : List Int64} {ty : FieldType} {k : ClassId}
/-- an array of ints (bytes, chars): its length and what it holds -/
def own_AI (Z : State) (h : Heap) (a : Addr) (ty : FieldType) (n : Int32) (L : List Int32) : Prop := L.length = n.toNatClampNeg ∧ ∃ k, Arv Z h a k ty n (L.map Value.int) (.int 0)
def own_AJ (Z : State) (h : Heap) (a : Addr) (n : Int32) (M : List Int64) : Prop := M.length = n.toNatClampNeg ∧ ∃ k, Arv Z h a k .long n (M.map Value.long) (.long 0)
theorem own_AI.lt (F : own_AI Z h a ty n L) : a < h.size := by obtain ⟨_, _, A⟩ := F; exact A.lt
theorem own_AJ.lt (F : own_AJ Z h a n M) : a < h.size := by obtain ⟨_, _, A⟩ := F; exact A.lt
theorem own_AI.ext (F : own_AI Z h a ty n L) (E : Ext h h') : own_AI Z h' a ty n L := by obtain ⟨q, k, A⟩ := F; exact ⟨q, k, A.ext E⟩
theorem own_AJ.ext (F : own_AJ Z h a n M) (E : Ext h h') : own_AJ Z h' a n M := by obtain ⟨q, k, A⟩ := F; exact ⟨q, k, A.ext E⟩
theorem own_AI.other (F : own_AI Z h b ty n L) (W : Wr h h' a sl v) (q : b ≠ a) : own_AI Z h' b ty n L := by obtain ⟨r, k, A⟩ := F; exact ⟨r, k, A.other W q⟩
theorem own_AJ.other (F : own_AJ Z h b n M) (W : Wr h h' a sl v) (q : b ≠ a) : own_AJ Z h' b n M := by obtain ⟨r, k, A⟩ := F; exact ⟨r, k, A.other W q⟩
theorem own_AI.keep (F : own_AI Z h a ty n L) (K : Keep h h' ws) (q : a ∉ ws) : own_AI Z h' a ty n L := by obtain ⟨r, k, A⟩ := F; exact ⟨r, k, A.keep K q⟩
theorem own_AJ.keep (F : own_AJ Z h a n M) (K : Keep h h' ws) (q : a ∉ ws) : own_AJ Z h' a n M := by obtain ⟨r, k, A⟩ := F; exact ⟨r, k, A.keep K q⟩
theorem own_AI.new (A : Arr Z h a (newA k ty n) ty) (q : ¬ n < 0) (hd : defaultValue ty = .int 0) : own_AI Z h a ty n (List.replicate n.toNatClampNeg 0) := by
  refine ⟨by simp, k, ?_⟩
  have B := Arv.new A q
  rw [hd] at B
  rw [List.map_replicate]
  exact B.pad (pad_rep [] _ _)
theorem own_AJ.new (A : Arr Z h a (newA k .long n) .long) (q : ¬ n < 0) : own_AJ Z h a n (List.replicate n.toNatClampNeg 0) := by
  refine ⟨by simp, k, ?_⟩
  have B := Arv.new A q
  rw [List.map_replicate]
  exact B.pad (pad_rep [] _ _)
theorem own_getD_int (L : List Int32) (i : Nat) : (L.map Value.int).getD i (.int 0) = .int (L.getD i 0) := by
  simp only [List.getD_eq_getElem?_getD, List.getElem?_map]
  cases L[i]? <;> rfl
theorem own_getD_long (M : List Int64) (i : Nat) : (M.map Value.long).getD i (.long 0) = .long (M.getD i 0) := by
  simp only [List.getD_eq_getElem?_getD, List.getElem?_map]
  cases M[i]? <;> rfl
theorem own_inl {j : Int32} {len : Nat} (q : len = n.toNatClampNeg) (hj : ¬ j < 0 ∧ j < n) : j.toNatClampNeg < len := by
  rw [q]; obtain ⟨q1, q2⟩ := hj
  rw [Int32.lt_iff_toInt_lt] at q1 q2
  have e0 : (0 : Int32).toInt = 0 := rfl
  simp only [Int32.toNatClampNeg] at *; omega
theorem own_ldI (X : Stand p l e R s m args below meth c T locs cells slots) (hx : p.tables.exec = Jvm.exec) (hZ : Z.Warmed39 s.vm) (eT : T.heap = h) (F : own_AI Z h a .int n L) {j : Int32} (hj : ¬ j < 0 ∧ j < n) {g : JFrame} (hg : g.method = m) {rest : List Value} (hs : g.stack = .int j :: .ref a :: rest) (hd : decode c.code g.pc = .ok (.iaload, 1)) :
    ∀ target, Steps p.tables e below (T.setTop { g with pc := g.pc + 1, stack := .int (L.getD j.toNatClampNeg 0) :: rest }) target → Steps p.tables e below (T.setTop g) target := by
  intro target hk
  obtain ⟨q, k, cl, A, r1, S, r3, H, G⟩ := F
  have hin := inb_of S hj
  exact X.iaload hx (j := j) (v := .int (L.getD j.toNatClampNeg 0)) (by rw [eT]; exact A.1) (State.isArrayOf_alike hZ.alike A.2.1) A.2.2 hin (H.at hin (own_getD_int L _)) hg hs hd _ hk
theorem own_ldB (X : Stand p l e R s m args below meth c T locs cells slots) (hx : p.tables.exec = Jvm.exec) (hZ : Z.Warmed39 s.vm) (eT : T.heap = h) (F : own_AI Z h a .byte n L) {j : Int32} (hj : ¬ j < 0 ∧ j < n) {g : JFrame} (hg : g.method = m) {rest : List Value} (hs : g.stack = .int j :: .ref a :: rest) (hd : decode c.code g.pc = .ok (.baload, 1)) :
    ∀ target, Steps p.tables e below (T.setTop { g with pc := g.pc + 1, stack := .int (L.getD j.toNatClampNeg 0) :: rest }) target → Steps p.tables e below (T.setTop g) target := by
  intro target hk
  obtain ⟨q, k, cl, A, r1, S, r3, H, G⟩ := F
  have hin := inb_of S hj
  exact X.baloadBytes hx (j := j) (v := .int (L.getD j.toNatClampNeg 0)) (by rw [eT]; exact A.1) (State.isArrayOf_alike hZ.alike A.2.1) A.2.2 hin (H.at hin (own_getD_int L _)) hg hs hd _ hk
theorem own_ldJ (X : Stand p l e R s m args below meth c T locs cells slots) (hx : p.tables.exec = Jvm.exec) (hZ : Z.Warmed39 s.vm) (eT : T.heap = h) (F : own_AJ Z h a n M) {j : Int32} (hj : ¬ j < 0 ∧ j < n) {g : JFrame} (hg : g.method = m) {rest : List Value} (hs : g.stack = .int j :: .ref a :: rest) (hd : decode c.code g.pc = .ok (.laload, 1)) :
    ∀ target, Steps p.tables e below (T.setTop { g with pc := g.pc + 1, stack := .long (M.getD j.toNatClampNeg 0) :: rest }) target → Steps p.tables e below (T.setTop g) target := by
  intro target hk
  obtain ⟨q, k, cl, A, r1, S, r3, H, G⟩ := F
  have hin := inb_of S hj
  exact X.laload hx (j := j) (v := .long (M.getD j.toNatClampNeg 0)) (by rw [eT]; exact A.1) (State.isArrayOf_alike hZ.alike A.2.1) A.2.2 hin (H.at hin (own_getD_long M _)) hg hs hd _ hk
theorem own_len (X : Stand p l e R s m args below meth c T locs cells slots) (hx : p.tables.exec = Jvm.exec) (hZ : Z.Warmed39 s.vm) (eT : T.heap = h) (F : own_AI Z h a ty n L) {g : JFrame} (hg : g.method = m) {rest : List Value} (hs : g.stack = .ref a :: rest) (hd : decode c.code g.pc = .ok (.arraylength, 1)) :
    ∀ target, Steps p.tables e below (T.setTop { g with pc := g.pc + 1, stack := .int n :: rest }) target → Steps p.tables e below (T.setTop g) target := by
  intro target hk
  obtain ⟨q, k, cl, A, r1, S, r3, H, G⟩ := F
  refine X.arraylength hx (by rw [eT]; exact A.1) (State.isArrayOf_alike hZ.alike A.2.1) hg hs hd _ ?_
  rw [len_of S r3]; exact hk
theorem own_lenJ (X : Stand p l e R s m args below meth c T locs cells slots) (hx : p.tables.exec = Jvm.exec) (hZ : Z.Warmed39 s.vm) (eT : T.heap = h) (F : own_AJ Z h a n M) {g : JFrame} (hg : g.method = m) {rest : List Value} (hs : g.stack = .ref a :: rest) (hd : decode c.code g.pc = .ok (.arraylength, 1)) :
    ∀ target, Steps p.tables e below (T.setTop { g with pc := g.pc + 1, stack := .int n :: rest }) target → Steps p.tables e below (T.setTop g) target := by
  intro target hk
  obtain ⟨q, k, cl, A, r1, S, r3, H, G⟩ := F
  refine X.arraylength hx (by rw [eT]; exact A.1) (State.isArrayOf_alike hZ.alike A.2.1) hg hs hd _ ?_
  rw [len_of S r3]; exact hk
theorem own_stI (X : Stand p l e R s m args below meth c T locs cells slots) (hx : p.tables.exec = Jvm.exec) (hZ : Z.Warmed39 s.vm) (eT : T.heap = h) (F : own_AI Z h a .int n L) {j x : Int32} (hj : ¬ j < 0 ∧ j < n) {g : JFrame} (hg : g.method = m) {rest : List Value} (hs : g.stack = .int x :: .int j :: .ref a :: rest) (hd : decode c.code g.pc = .ok (.iastore, 1)) :
    ∃ T' h', Stand p l e R s m args below meth c T' (locs ++ [⟨a, j.toNatClampNeg⟩]) cells slots ∧ T'.heap = h' ∧ Wr h h' a j.toNatClampNeg (.int x) ∧ own_AI Z h' a .int n (L.set j.toNatClampNeg x) ∧ ∀ target, Steps p.tables e below (T'.setTop { g with pc := g.pc + 1, stack := rest }) target → Steps p.tables e below (T.setTop g) target := by
  obtain ⟨q, k, cl, A, r1, S, r3, H, G⟩ := F
  obtain ⟨T', h', X', e', W, st⟩ := stI X hx hZ eT A (inb_of S hj) hg hs hd
  refine ⟨T', h', X', e', W, ⟨by simp [q], k, ?_⟩, st⟩
  have B := Arv.set A r1 S r3 H G (v := .int x) rfl W j.toNatClampNeg rfl (by rw [List.length_map]; exact own_inl q hj)
  rw [List.map_set]; exact B
theorem own_stB (X : Stand p l e R s m args below meth c T locs cells slots) (hx : p.tables.exec = Jvm.exec) (hZ : Z.Warmed39 s.vm) (eT : T.heap = h) (F : own_AI Z h a .byte n L) {j x : Int32} (hj : ¬ j < 0 ∧ j < n) {g : JFrame} (hg : g.method = m) {rest : List Value} (hs : g.stack = .int x :: .int j :: .ref a :: rest) (hd : decode c.code g.pc = .ok (.bastore, 1)) :
    ∃ T' h', Stand p l e R s m args below meth c T' (locs ++ [⟨a, j.toNatClampNeg⟩]) cells slots ∧ T'.heap = h' ∧ Wr h h' a j.toNatClampNeg (.int x.toInt8.toInt32) ∧ own_AI Z h' a .byte n (L.set j.toNatClampNeg x.toInt8.toInt32) ∧ ∀ target, Steps p.tables e below (T'.setTop { g with pc := g.pc + 1, stack := rest }) target → Steps p.tables e below (T.setTop g) target := by
  obtain ⟨q, k, cl, A, r1, S, r3, H, G⟩ := F
  obtain ⟨T', h', X', e', W, st⟩ := stB X hx hZ eT A (inb_of S hj) hg hs hd
  refine ⟨T', h', X', e', W, ⟨by simp [q], k, ?_⟩, st⟩
  have B := Arv.set A r1 S r3 H G (v := .int x.toInt8.toInt32) (fits_nar_byte _) W j.toNatClampNeg rfl (by rw [List.length_map]; exact own_inl q hj)
  rw [List.map_set]; exact B
theorem own_stJ (X : Stand p l e R s m args below meth c T locs cells slots) (hx : p.tables.exec = Jvm.exec) (hZ : Z.Warmed39 s.vm) (eT : T.heap = h) (F : own_AJ Z h a n M) {j : Int32} {x : Int64} (hj : ¬ j < 0 ∧ j < n) {g : JFrame} (hg : g.method = m) {rest : List Value} (hs : g.stack = .long x :: .int j :: .ref a :: rest) (hd : decode c.code g.pc = .ok (.lastore, 1)) :
    ∃ T' h', Stand p l e R s m args below meth c T' (locs ++ [⟨a, j.toNatClampNeg⟩]) cells slots ∧ T'.heap = h' ∧ Wr h h' a j.toNatClampNeg (.long x) ∧ own_AJ Z h' a n (M.set j.toNatClampNeg x) ∧ ∀ target, Steps p.tables e below (T'.setTop { g with pc := g.pc + 1, stack := rest }) target → Steps p.tables e below (T.setTop g) target := by
  obtain ⟨q, k, cl, A, r1, S, r3, H, G⟩ := F
  obtain ⟨T', h', X', e', W, st⟩ := stJ X hx hZ eT A (inb_of S hj) hg hs hd
  refine ⟨T', h', X', e', W, ⟨by simp [q], k, ?_⟩, st⟩
  have B := Arv.set A r1 S r3 H G (v := .long x) rfl W j.toNatClampNeg rfl (by rw [List.length_map]; exact own_inl q hj)
  rw [List.map_set]; exact B
end OwnArr
end Jvm.RoadKit
namespace Jvm.RoadKit
open Sem ClassFile Op Lib Jvm.Stand Jvm.Free Jvm.LawKit
section OwnIdx
variable {Z : State} {h : Heap} {a : Addr} {n : Int32} {L : List Int32} {ty : FieldType} {i : Nat}
theorem own_ofNat_toInt {i : Nat} (hi : i < 2 ^ 31) : (Int32.ofNat i).toInt = (i : Int) := Int32.toInt_ofNat_of_lt hi
theorem own_AI.len (A : own_AI Z h a ty n L) : n.toInt = (L.length : Int) ∧ L.length < 2 ^ 31 := by
  obtain ⟨q, k, cl, A, r1, S, r3, H, G⟩ := A
  rw [Int32.lt_iff_toInt_lt] at r3
  have e0 : (0 : Int32).toInt = 0 := rfl
  have := n.toInt_lt
  simp only [Int32.toNatClampNeg] at q; omega
theorem own_AI.lt_iff (A : own_AI Z h a ty n L) (hi : i ≤ L.length) : Int32.ofNat i < n ↔ i < L.length := by
  obtain ⟨q, r⟩ := A.len
  rw [Int32.lt_iff_toInt_lt, own_ofNat_toInt (by omega), q]; omega
theorem own_AI.eq_iff (A : own_AI Z h a ty n L) (hi : i ≤ L.length) : Int32.ofNat i = n ↔ i = L.length := by
  obtain ⟨q, r⟩ := A.len
  rw [← Int32.toInt_inj, own_ofNat_toInt (by omega), q]; omega
theorem own_AI.inb (A : own_AI Z h a ty n L) (hi : i < L.length) : ¬ Int32.ofNat i < 0 ∧ Int32.ofNat i < n := by
  obtain ⟨q, r⟩ := A.len
  refine ⟨?_, (A.lt_iff (Nat.le_of_lt hi)).mpr hi⟩
  have e0 : (0 : Int32).toInt = 0 := rfl
  rw [Int32.lt_iff_toInt_lt, own_ofNat_toInt (by omega), e0]; omega
theorem own_at_ofNat {i : Nat} (hi : i < 2 ^ 31) : (Int32.ofNat i).toNatClampNeg = i := by
  simp only [Int32.toNatClampNeg, own_ofNat_toInt hi]; rfl
theorem own_succ (i : Nat) : Int32.ofNat i + (1 : Int32) = Int32.ofNat (i + 1) := by rw [Int32.ofNat_add]; rfl
end OwnIdx
end Jvm.RoadKit
namespace Jvm.Pilot.@@N@@
open Jvm Jvm.ClassFile Sem Op Lib Jvm.Free Jvm.Stand Jvm.LawKit Jvm.RoadKit Bundle Jvm.Pilot.@@N@@.Jvm.D
theorem own_pn0 : plainName "com/example/term_proximity_ranking/termproximityranking/WindowsOrderedPinLaw" = true := by first | (simp [plainName, overriddenIn]; done) | decide +kernel
theorem own_d1_0 : decode method_3_code 0 = .ok (.iload_n 2, 1) := by decide +kernel
theorem own_d1_1 : decode method_3_code 1 = .ok (.newarray .int, 2) := by decide +kernel
theorem own_d1_3 : decode method_3_code 3 = .ok (.astore_n 3, 1) := by decide +kernel
theorem own_d1_4 : decode method_3_code 4 = .ok (.iload_n 0, 1) := by decide +kernel
theorem own_d1_5 : decode method_3_code 5 = .ok (.iload_n 1, 1) := by decide +kernel
theorem own_d1_6 : decode method_3_code 6 = .ok (.bipush 7, 2) := by decide +kernel
theorem own_d1_8 : decode method_3_code 8 = .ok (.iand, 1) := by decide +kernel
theorem own_d1_9 : decode method_3_code 9 = .ok (.iadd, 1) := by decide +kernel
theorem own_d1_10 : decode method_3_code 10 = .ok (.istore 4, 2) := by decide +kernel
theorem own_d1_12 : decode method_3_code 12 = .ok (.iload 4, 2) := by decide +kernel
theorem own_d1_14 : decode method_3_code 14 = .ok (.iconst 1, 1) := by decide +kernel
theorem own_d1_15 : decode method_3_code 15 = .ok (.iadd, 1) := by decide +kernel
theorem own_d1_16 : decode method_3_code 16 = .ok (.iload_n 1, 1) := by decide +kernel
theorem own_d1_17 : decode method_3_code 17 = .ok (.iconst 3, 1) := by decide +kernel
theorem own_d1_18 : decode method_3_code 18 = .ok (.iushr, 1) := by decide +kernel
theorem own_d1_19 : decode method_3_code 19 = .ok (.iconst 3, 1) := by decide +kernel
theorem own_d1_20 : decode method_3_code 20 = .ok (.iand, 1) := by decide +kernel
theorem own_d1_21 : decode method_3_code 21 = .ok (.iadd, 1) := by decide +kernel
theorem own_d1_22 : decode method_3_code 22 = .ok (.istore 5, 2) := by decide +kernel
theorem own_d1_24 : decode method_3_code 24 = .ok (.iload 5, 2) := by decide +kernel
theorem own_d1_26 : decode method_3_code 26 = .ok (.iconst 1, 1) := by decide +kernel
theorem own_d1_27 : decode method_3_code 27 = .ok (.iadd, 1) := by decide +kernel
theorem own_d1_28 : decode method_3_code 28 = .ok (.iload_n 1, 1) := by decide +kernel
theorem own_d1_29 : decode method_3_code 29 = .ok (.iconst 5, 1) := by decide +kernel
theorem own_d1_30 : decode method_3_code 30 = .ok (.iushr, 1) := by decide +kernel
theorem own_d1_31 : decode method_3_code 31 = .ok (.iconst 3, 1) := by decide +kernel
theorem own_d1_32 : decode method_3_code 32 = .ok (.iand, 1) := by decide +kernel
theorem own_d1_33 : decode method_3_code 33 = .ok (.iadd, 1) := by decide +kernel
theorem own_d1_34 : decode method_3_code 34 = .ok (.istore 6, 2) := by decide +kernel
theorem own_d1_36 : decode method_3_code 36 = .ok (.iload_n 2, 1) := by decide +kernel
theorem own_d1_37 : decode method_3_code 37 = .ok (.ifCond .le 8, 3) := by decide +kernel
theorem own_d1_40 : decode method_3_code 40 = .ok (.aload_n 3, 1) := by decide +kernel
theorem own_d1_41 : decode method_3_code 41 = .ok (.iconst 0, 1) := by decide +kernel
theorem own_d1_42 : decode method_3_code 42 = .ok (.iload 4, 2) := by decide +kernel
theorem own_d1_44 : decode method_3_code 44 = .ok (.iastore, 1) := by decide +kernel
theorem own_d1_45 : decode method_3_code 45 = .ok (.iload_n 2, 1) := by decide +kernel
theorem own_d1_46 : decode method_3_code 46 = .ok (.iconst 1, 1) := by decide +kernel
theorem own_d1_47 : decode method_3_code 47 = .ok (.if_icmp .le 8, 3) := by decide +kernel
theorem own_d1_50 : decode method_3_code 50 = .ok (.aload_n 3, 1) := by decide +kernel
theorem own_d1_51 : decode method_3_code 51 = .ok (.iconst 1, 1) := by decide +kernel
theorem own_d1_52 : decode method_3_code 52 = .ok (.iload 5, 2) := by decide +kernel
theorem own_d1_54 : decode method_3_code 54 = .ok (.iastore, 1) := by decide +kernel
theorem own_d1_55 : decode method_3_code 55 = .ok (.iload_n 2, 1) := by decide +kernel
theorem own_d1_56 : decode method_3_code 56 = .ok (.iconst 2, 1) := by decide +kernel
theorem own_d1_57 : decode method_3_code 57 = .ok (.if_icmp .le 8, 3) := by decide +kernel
theorem own_d1_60 : decode method_3_code 60 = .ok (.aload_n 3, 1) := by decide +kernel
theorem own_d1_61 : decode method_3_code 61 = .ok (.iconst 2, 1) := by decide +kernel
theorem own_d1_62 : decode method_3_code 62 = .ok (.iload 6, 2) := by decide +kernel
theorem own_d1_64 : decode method_3_code 64 = .ok (.iastore, 1) := by decide +kernel
theorem own_d1_65 : decode method_3_code 65 = .ok (.aload_n 3, 1) := by decide +kernel
theorem own_d1_66 : decode method_3_code 66 = .ok (.areturn, 1) := by decide +kernel
def own_v1_22 (xa : Int32) (xb : Int32) : Int32 := (((xa + (xb &&& (7 : Int32))) + (1 : Int32)) + (((xb.toUInt32 >>> ((3 : Int32) &&& 31).toUInt32).toInt32) &&& (3 : Int32)))
def own_v1_34 (xa : Int32) (xb : Int32) : Int32 := (((own_v1_22 xa xb) + (1 : Int32)) + (((xb.toUInt32 >>> ((5 : Int32) &&& 31).toUInt32).toInt32) &&& (3 : Int32)))
def own_list1 (xa : Int32) (xb : Int32) (xc : Int32) : List Int32 := (if (0 : Int32) < xc then (if (1 : Int32) < xc then (if (2 : Int32) < xc then ((((List.replicate (xc).toNatClampNeg (0 : Int32)).set ((0 : Int32)).toNatClampNeg (xa + (xb &&& (7 : Int32)))).set ((1 : Int32)).toNatClampNeg (own_v1_22 xa xb)).set ((2 : Int32)).toNatClampNeg (own_v1_34 xa xb)) else (((List.replicate (xc).toNatClampNeg (0 : Int32)).set ((0 : Int32)).toNatClampNeg (xa + (xb &&& (7 : Int32)))).set ((1 : Int32)).toNatClampNeg (own_v1_22 xa xb))) else (if (2 : Int32) < xc then (((List.replicate (xc).toNatClampNeg (0 : Int32)).set ((0 : Int32)).toNatClampNeg (xa + (xb &&& (7 : Int32)))).set ((2 : Int32)).toNatClampNeg (own_v1_34 xa xb)) else ((List.replicate (xc).toNatClampNeg (0 : Int32)).set ((0 : Int32)).toNatClampNeg (xa + (xb &&& (7 : Int32)))))) else (if (1 : Int32) < xc then (if (2 : Int32) < xc then (((List.replicate (xc).toNatClampNeg (0 : Int32)).set ((1 : Int32)).toNatClampNeg (own_v1_22 xa xb)).set ((2 : Int32)).toNatClampNeg (own_v1_34 xa xb)) else ((List.replicate (xc).toNatClampNeg (0 : Int32)).set ((1 : Int32)).toNatClampNeg (own_v1_22 xa xb))) else (if (2 : Int32) < xc then ((List.replicate (xc).toNatClampNeg (0 : Int32)).set ((2 : Int32)).toNatClampNeg (own_v1_34 xa xb)) else (List.replicate (xc).toNatClampNeg (0 : Int32)))))
theorem own_ef1 (m : MethodId) (xa : Int32) (xb : Int32) (xc : Int32) : entryFrame m #[(.int xa), (.int xb), (.int xc)] 7 = mkF m 0 #[.val (.int xa), .val (.int xb), .val (.int xc), .unset, .unset, .unset, .unset] [] := by first | (simp [entryFrame, mkF, argsToLocals, Value.category]; done) | rfl
abbrev own_room1 : Room := { frames := 0, cells := 1, slots := 3, locals := 0 }
def own_Q1 (Z : State) (xa : Int32) (xb : Int32) (xc : Int32) (h0 : Heap) (n0 : Nat) (v : Option Value) (h : Heap) (L : List Loc) : Prop := ∃ ob : Addr, v = some (.ref ob) ∧ Fr n0 L ∧ Keep h0 h [] ∧ h0.size ≤ ob ∧ own_AI Z h ob .int xc (own_list1 xa xb xc)
set_option maxRecDepth 65536 in
set_option maxHeartbeats 40000000 in
theorem own_rm1 (l : Launch) (Z : State) (a0 : Array Value) (hw : ∀ d ∈ tables_1, d.before a0 Z = true) (ws : List Jvm.Cond) (xa : Int32) (xb : Int32) (xc : Int32) (h0 : Heap) (n0 : Nat) (Z0 : n0 ≤ h0.size) (hn : ¬ xc < (0 : Int32)) (hc : xc.toNatClampNeg ≤ 3) :
    MetFree l (⟨"com/example/term_proximity_ranking/termproximityranking/WindowsOrderedPinLaw", "build", "(III)[I"⟩ : MethodName) (head1 (Jvm.Cond.code (⟨"com/example/term_proximity_ranking/termproximityranking/WindowsOrderedPinLaw", "build", "(III)[I"⟩ : MethodName) method_3_code 7 (some (.array .int)) :: ws) own_room1) (fun a U => a = #[(.int xa), (.int xb), (.int xc)] ∧ Z.Warmed39 U.vm ∧ U.heap = h0) (fun _ _ _ _ _ => True) (fun _ U o U' => ∃ v L, o = .returned v ∧ own_Q1 Z xa xb xc h0 n0 v U'.heap L ∧ FrameEnd U o U' L own_room1.cells own_room1.slots) := by
  refine MetFree.of_bodySF (plainFor_of_name own_pn0) hisR ?_
  intro p e s m args below meth c s₁ Bd hml0 hP hK
  obtain ⟨rfl, hZ, hh⟩ := hP
  have hx := Bd.exec
  have hby := Bd.bytes
  have hml : c.maxLocals = 7 := hml0
  have hown : s.vm.findClass "com/example/term_proximity_ranking/termproximityranking/WindowsOrderedPinLaw" = some m.cls := findClass_of_methodNamed Bd.named
  have hnm := (name_of_methodNamed Bd.named Bd.method).1
  have X0 : Stand p l e own_room1 s m #[(.int xa), (.int xb), (.int xc)] below meth c s₁ [] 0 0 := Stand.of_body Bd
  have e0 : s₁.heap = h0 := by rw [← hh, Bd.state]; rfl
  have N0 := Fr.nil n0
  refine own_out (Q := fun o U' => ∃ v L, o = .returned v ∧ own_Q1 Z xa xb xc h0 n0 v U'.heap L ∧ FrameEnd s o U' L own_room1.cells own_room1.slots) ?_
  refine own_go (T' := s₁) (f' := (mkF m 0 #[.val (.int xa), .val (.int xb), .val (.int xc), .unset, .unset, .unset, .unset] [])) ?_ (fun _ k => castTop (own_ef1 m xa xb xc) k)
  refine own_go (T' := s₁) (f' := (mkF m 1 #[.val (.int xa), .val (.int xb), .val (.int xc), .unset, .unset, .unset, .unset] [(.int xc)])) ?_ (fun _ k => XS.iloadN X0.here hx rfl (hb hby own_d1_0) rfl  k)
  obtain ⟨T1, h1, k1, X1, e1, E1, A1, st1⟩ := newP X0 hx hZ (hw _ (List.mem_of_getElem? (i := 5) rfl)) e0 (g := (mkF m 1 #[.val (.int xa), .val (.int xb), .val (.int xc), .unset, .unset, .unset, .unset] [(.int xc)])) rfl (hb hby own_d1_1) rfl hn (cap := 3) hc (by decide) (by decide) (by decide)
  obtain ⟨b1, g1⟩ : ∃ z, z = h0.size := ⟨_, rfl⟩
  rw [← g1] at A1 st1
  have KK1 : Keep h0 h1 [] := (Keep.refl h0 []).ext E1
  have g_b1 : n0 ≤ b1 := Nat.le_trans Z0 (Nat.le_of_eq g1.symm)
  have sz_b1 : h0.size ≤ b1 := Nat.le_trans (Keep.refl h0 []).1 (Nat.le_of_eq g1.symm)
  have ZZ1 : n0 ≤ h1.size := Nat.le_trans Z0 E1.1
  have AA1 : own_AI Z h1 b1 .int xc (List.replicate (xc).toNatClampNeg (0 : Int32)) := own_AI.new A1 hn rfl
  refine own_go (T' := T1) (f' := (mkF m 3 #[.val (.int xa), .val (.int xb), .val (.int xc), .unset, .unset, .unset, .unset] [(.ref b1)])) ?_ (st1)
  refine own_go (T' := T1) (f' := (mkF m 4 #[.val (.int xa), .val (.int xb), .val (.int xc), .val (.ref b1), .unset, .unset, .unset] [])) ?_ (fun _ k => XS.astoreN X1.here hx rfl (hb hby own_d1_3) rfl rfl (l' := #[.val (.int xa), .val (.int xb), .val (.int xc), .val (.ref b1), .unset, .unset, .unset]) rfl k)
  refine own_go (T' := T1) (f' := (mkF m 5 #[.val (.int xa), .val (.int xb), .val (.int xc), .val (.ref b1), .unset, .unset, .unset] [(.int xa)])) ?_ (fun _ k => XS.iloadN X1.here hx rfl (hb hby own_d1_4) rfl  k)
  refine own_go (T' := T1) (f' := (mkF m 6 #[.val (.int xa), .val (.int xb), .val (.int xc), .val (.ref b1), .unset, .unset, .unset] [(.int xb), (.int xa)])) ?_ (fun _ k => XS.iloadN X1.here hx rfl (hb hby own_d1_5) rfl  k)
  refine own_go (T' := T1) (f' := (mkF m 8 #[.val (.int xa), .val (.int xb), .val (.int xc), .val (.ref b1), .unset, .unset, .unset] [(.int (7 : Int32)), (.int xb), (.int xa)])) ?_ (fun _ k => XS.bipush X1.here hx rfl (hb hby own_d1_6) k)
  refine own_go (T' := T1) (f' := (mkF m 9 #[.val (.int xa), .val (.int xb), .val (.int xc), .val (.ref b1), .unset, .unset, .unset] [(.int (xb &&& (7 : Int32))), (.int xa)])) ?_ (fun _ k => XS.iand X1.here hx rfl (hb hby own_d1_8) rfl k)
  refine own_go (T' := T1) (f' := (mkF m 10 #[.val (.int xa), .val (.int xb), .val (.int xc), .val (.ref b1), .unset, .unset, .unset] [(.int (xa + (xb &&& (7 : Int32))))])) ?_ (fun _ k => XS.iadd X1.here hx rfl (hb hby own_d1_9) rfl k)
  refine own_go (T' := T1) (f' := (mkF m 12 #[.val (.int xa), .val (.int xb), .val (.int xc), .val (.ref b1), .val (.int (xa + (xb &&& (7 : Int32)))), .unset, .unset] [])) ?_ (fun _ k => XS.istore X1.here hx rfl (hb hby own_d1_10) rfl (l' := #[.val (.int xa), .val (.int xb), .val (.int xc), .val (.ref b1), .val (.int (xa + (xb &&& (7 : Int32)))), .unset, .unset]) rfl k)
  refine own_go (T' := T1) (f' := (mkF m 14 #[.val (.int xa), .val (.int xb), .val (.int xc), .val (.ref b1), .val (.int (xa + (xb &&& (7 : Int32)))), .unset, .unset] [(.int (xa + (xb &&& (7 : Int32))))])) ?_ (fun _ k => XS.iload X1.here hx rfl (hb hby own_d1_12) rfl  k)
  refine own_go (T' := T1) (f' := (mkF m 15 #[.val (.int xa), .val (.int xb), .val (.int xc), .val (.ref b1), .val (.int (xa + (xb &&& (7 : Int32)))), .unset, .unset] [(.int (1 : Int32)), (.int (xa + (xb &&& (7 : Int32))))])) ?_ (fun _ k => XS.iconst X1.here hx rfl (hb hby own_d1_14) k)
  refine own_go (T' := T1) (f' := (mkF m 16 #[.val (.int xa), .val (.int xb), .val (.int xc), .val (.ref b1), .val (.int (xa + (xb &&& (7 : Int32)))), .unset, .unset] [(.int ((xa + (xb &&& (7 : Int32))) + (1 : Int32)))])) ?_ (fun _ k => XS.iadd X1.here hx rfl (hb hby own_d1_15) rfl k)
  refine own_go (T' := T1) (f' := (mkF m 17 #[.val (.int xa), .val (.int xb), .val (.int xc), .val (.ref b1), .val (.int (xa + (xb &&& (7 : Int32)))), .unset, .unset] [(.int xb), (.int ((xa + (xb &&& (7 : Int32))) + (1 : Int32)))])) ?_ (fun _ k => XS.iloadN X1.here hx rfl (hb hby own_d1_16) rfl  k)
  refine own_go (T' := T1) (f' := (mkF m 18 #[.val (.int xa), .val (.int xb), .val (.int xc), .val (.ref b1), .val (.int (xa + (xb &&& (7 : Int32)))), .unset, .unset] [(.int (3 : Int32)), (.int xb), (.int ((xa + (xb &&& (7 : Int32))) + (1 : Int32)))])) ?_ (fun _ k => XS.iconst X1.here hx rfl (hb hby own_d1_17) k)
  refine own_go (T' := T1) (f' := (mkF m 19 #[.val (.int xa), .val (.int xb), .val (.int xc), .val (.ref b1), .val (.int (xa + (xb &&& (7 : Int32)))), .unset, .unset] [(.int ((xb.toUInt32 >>> ((3 : Int32) &&& 31).toUInt32).toInt32)), (.int ((xa + (xb &&& (7 : Int32))) + (1 : Int32)))])) ?_ (fun _ k => XS.iushr X1.here hx rfl (hb hby own_d1_18) rfl k)
  refine own_go (T' := T1) (f' := (mkF m 20 #[.val (.int xa), .val (.int xb), .val (.int xc), .val (.ref b1), .val (.int (xa + (xb &&& (7 : Int32)))), .unset, .unset] [(.int (3 : Int32)), (.int ((xb.toUInt32 >>> ((3 : Int32) &&& 31).toUInt32).toInt32)), (.int ((xa + (xb &&& (7 : Int32))) + (1 : Int32)))])) ?_ (fun _ k => XS.iconst X1.here hx rfl (hb hby own_d1_19) k)
  refine own_go (T' := T1) (f' := (mkF m 21 #[.val (.int xa), .val (.int xb), .val (.int xc), .val (.ref b1), .val (.int (xa + (xb &&& (7 : Int32)))), .unset, .unset] [(.int (((xb.toUInt32 >>> ((3 : Int32) &&& 31).toUInt32).toInt32) &&& (3 : Int32))), (.int ((xa + (xb &&& (7 : Int32))) + (1 : Int32)))])) ?_ (fun _ k => XS.iand X1.here hx rfl (hb hby own_d1_20) rfl k)
  refine own_go (T' := T1) (f' := (mkF m 22 #[.val (.int xa), .val (.int xb), .val (.int xc), .val (.ref b1), .val (.int (xa + (xb &&& (7 : Int32)))), .unset, .unset] [(.int (((xa + (xb &&& (7 : Int32))) + (1 : Int32)) + (((xb.toUInt32 >>> ((3 : Int32) &&& 31).toUInt32).toInt32) &&& (3 : Int32))))])) ?_ (fun _ k => XS.iadd X1.here hx rfl (hb hby own_d1_21) rfl k)
  refine own_go (T' := T1) (f' := (mkF m 24 #[.val (.int xa), .val (.int xb), .val (.int xc), .val (.ref b1), .val (.int (xa + (xb &&& (7 : Int32)))), .val (.int (own_v1_22 xa xb)), .unset] [])) ?_ (fun _ k => XS.istore X1.here hx rfl (hb hby own_d1_22) rfl (l' := #[.val (.int xa), .val (.int xb), .val (.int xc), .val (.ref b1), .val (.int (xa + (xb &&& (7 : Int32)))), .val (.int (own_v1_22 xa xb)), .unset]) rfl k)
  refine own_go (T' := T1) (f' := (mkF m 26 #[.val (.int xa), .val (.int xb), .val (.int xc), .val (.ref b1), .val (.int (xa + (xb &&& (7 : Int32)))), .val (.int (own_v1_22 xa xb)), .unset] [(.int (own_v1_22 xa xb))])) ?_ (fun _ k => XS.iload X1.here hx rfl (hb hby own_d1_24) rfl  k)
  refine own_go (T' := T1) (f' := (mkF m 27 #[.val (.int xa), .val (.int xb), .val (.int xc), .val (.ref b1), .val (.int (xa + (xb &&& (7 : Int32)))), .val (.int (own_v1_22 xa xb)), .unset] [(.int (1 : Int32)), (.int (own_v1_22 xa xb))])) ?_ (fun _ k => XS.iconst X1.here hx rfl (hb hby own_d1_26) k)
  refine own_go (T' := T1) (f' := (mkF m 28 #[.val (.int xa), .val (.int xb), .val (.int xc), .val (.ref b1), .val (.int (xa + (xb &&& (7 : Int32)))), .val (.int (own_v1_22 xa xb)), .unset] [(.int ((own_v1_22 xa xb) + (1 : Int32)))])) ?_ (fun _ k => XS.iadd X1.here hx rfl (hb hby own_d1_27) rfl k)
  refine own_go (T' := T1) (f' := (mkF m 29 #[.val (.int xa), .val (.int xb), .val (.int xc), .val (.ref b1), .val (.int (xa + (xb &&& (7 : Int32)))), .val (.int (own_v1_22 xa xb)), .unset] [(.int xb), (.int ((own_v1_22 xa xb) + (1 : Int32)))])) ?_ (fun _ k => XS.iloadN X1.here hx rfl (hb hby own_d1_28) rfl  k)
  refine own_go (T' := T1) (f' := (mkF m 30 #[.val (.int xa), .val (.int xb), .val (.int xc), .val (.ref b1), .val (.int (xa + (xb &&& (7 : Int32)))), .val (.int (own_v1_22 xa xb)), .unset] [(.int (5 : Int32)), (.int xb), (.int ((own_v1_22 xa xb) + (1 : Int32)))])) ?_ (fun _ k => XS.iconst X1.here hx rfl (hb hby own_d1_29) k)
  refine own_go (T' := T1) (f' := (mkF m 31 #[.val (.int xa), .val (.int xb), .val (.int xc), .val (.ref b1), .val (.int (xa + (xb &&& (7 : Int32)))), .val (.int (own_v1_22 xa xb)), .unset] [(.int ((xb.toUInt32 >>> ((5 : Int32) &&& 31).toUInt32).toInt32)), (.int ((own_v1_22 xa xb) + (1 : Int32)))])) ?_ (fun _ k => XS.iushr X1.here hx rfl (hb hby own_d1_30) rfl k)
  refine own_go (T' := T1) (f' := (mkF m 32 #[.val (.int xa), .val (.int xb), .val (.int xc), .val (.ref b1), .val (.int (xa + (xb &&& (7 : Int32)))), .val (.int (own_v1_22 xa xb)), .unset] [(.int (3 : Int32)), (.int ((xb.toUInt32 >>> ((5 : Int32) &&& 31).toUInt32).toInt32)), (.int ((own_v1_22 xa xb) + (1 : Int32)))])) ?_ (fun _ k => XS.iconst X1.here hx rfl (hb hby own_d1_31) k)
  refine own_go (T' := T1) (f' := (mkF m 33 #[.val (.int xa), .val (.int xb), .val (.int xc), .val (.ref b1), .val (.int (xa + (xb &&& (7 : Int32)))), .val (.int (own_v1_22 xa xb)), .unset] [(.int (((xb.toUInt32 >>> ((5 : Int32) &&& 31).toUInt32).toInt32) &&& (3 : Int32))), (.int ((own_v1_22 xa xb) + (1 : Int32)))])) ?_ (fun _ k => XS.iand X1.here hx rfl (hb hby own_d1_32) rfl k)
  refine own_go (T' := T1) (f' := (mkF m 34 #[.val (.int xa), .val (.int xb), .val (.int xc), .val (.ref b1), .val (.int (xa + (xb &&& (7 : Int32)))), .val (.int (own_v1_22 xa xb)), .unset] [(.int (((own_v1_22 xa xb) + (1 : Int32)) + (((xb.toUInt32 >>> ((5 : Int32) &&& 31).toUInt32).toInt32) &&& (3 : Int32))))])) ?_ (fun _ k => XS.iadd X1.here hx rfl (hb hby own_d1_33) rfl k)
  refine own_go (T' := T1) (f' := (mkF m 36 #[.val (.int xa), .val (.int xb), .val (.int xc), .val (.ref b1), .val (.int (xa + (xb &&& (7 : Int32)))), .val (.int (own_v1_22 xa xb)), .val (.int (own_v1_34 xa xb))] [])) ?_ (fun _ k => XS.istore X1.here hx rfl (hb hby own_d1_34) rfl (l' := #[.val (.int xa), .val (.int xb), .val (.int xc), .val (.ref b1), .val (.int (xa + (xb &&& (7 : Int32)))), .val (.int (own_v1_22 xa xb)), .val (.int (own_v1_34 xa xb))]) rfl k)
  refine own_go (T' := T1) (f' := (mkF m 37 #[.val (.int xa), .val (.int xb), .val (.int xc), .val (.ref b1), .val (.int (xa + (xb &&& (7 : Int32)))), .val (.int (own_v1_22 xa xb)), .val (.int (own_v1_34 xa xb))] [(.int xc)])) ?_ (fun _ k => XS.iloadN X1.here hx rfl (hb hby own_d1_36) rfl  k)
  by_cases hc37_2 : (0 : Int32) < xc
  · refine own_go (T' := T1) (f' := (mkF m 40 #[.val (.int xa), .val (.int xb), .val (.int xc), .val (.ref b1), .val (.int (xa + (xb &&& (7 : Int32)))), .val (.int (own_v1_22 xa xb)), .val (.int (own_v1_34 xa xb))] [])) ?_ (fun _ k => XS.ifNo X1.here hx rfl (hb hby own_d1_37) rfl ((if0 _ _).trans (tlt hc37_2).2.2.2) k)
    refine own_go (T' := T1) (f' := (mkF m 41 #[.val (.int xa), .val (.int xb), .val (.int xc), .val (.ref b1), .val (.int (xa + (xb &&& (7 : Int32)))), .val (.int (own_v1_22 xa xb)), .val (.int (own_v1_34 xa xb))] [(.ref b1)])) ?_ (fun _ k => XS.aloadN X1.here hx rfl (hb hby own_d1_40) rfl rfl k)
    refine own_go (T' := T1) (f' := (mkF m 42 #[.val (.int xa), .val (.int xb), .val (.int xc), .val (.ref b1), .val (.int (xa + (xb &&& (7 : Int32)))), .val (.int (own_v1_22 xa xb)), .val (.int (own_v1_34 xa xb))] [(.int (0 : Int32)), (.ref b1)])) ?_ (fun _ k => XS.iconst X1.here hx rfl (hb hby own_d1_41) k)
    refine own_go (T' := T1) (f' := (mkF m 44 #[.val (.int xa), .val (.int xb), .val (.int xc), .val (.ref b1), .val (.int (xa + (xb &&& (7 : Int32)))), .val (.int (own_v1_22 xa xb)), .val (.int (own_v1_34 xa xb))] [(.int (xa + (xb &&& (7 : Int32)))), (.int (0 : Int32)), (.ref b1)])) ?_ (fun _ k => XS.iload X1.here hx rfl (hb hby own_d1_42) rfl  k)
    obtain ⟨T3, h3, X3, e3, W3, F3, st3⟩ := own_stI X1 hx hZ e1 AA1 (j := (0 : Int32)) ⟨(by decide), hc37_2⟩ (g := (mkF m 44 #[.val (.int xa), .val (.int xb), .val (.int xc), .val (.ref b1), .val (.int (xa + (xb &&& (7 : Int32)))), .val (.int (own_v1_22 xa xb)), .val (.int (own_v1_34 xa xb))] [(.int (xa + (xb &&& (7 : Int32)))), (.int (0 : Int32)), (.ref b1)])) rfl rfl (hb hby own_d1_44)
    have Fw3 : own_AI Z h3 b1 .int xc ((List.replicate (xc).toNatClampNeg (0 : Int32)).set ((0 : Int32)).toNatClampNeg (xa + (xb &&& (7 : Int32)))) := F3
    have N3 := Fr.snoc X3 N0 g_b1
    have KK3 : Keep h0 h3 [] := KK1.wr W3 (Or.inr sz_b1)
    have ZZ3 : n0 ≤ h3.size := Nat.le_trans ZZ1 (Keep.of_wr W3).1
    refine own_go (T' := T3) (f' := (mkF m 45 #[.val (.int xa), .val (.int xb), .val (.int xc), .val (.ref b1), .val (.int (xa + (xb &&& (7 : Int32)))), .val (.int (own_v1_22 xa xb)), .val (.int (own_v1_34 xa xb))] [])) ?_ (st3)
    refine own_go (T' := T3) (f' := (mkF m 46 #[.val (.int xa), .val (.int xb), .val (.int xc), .val (.ref b1), .val (.int (xa + (xb &&& (7 : Int32)))), .val (.int (own_v1_22 xa xb)), .val (.int (own_v1_34 xa xb))] [(.int xc)])) ?_ (fun _ k => XS.iloadN X3.here hx rfl (hb hby own_d1_45) rfl  k)
    refine own_go (T' := T3) (f' := (mkF m 47 #[.val (.int xa), .val (.int xb), .val (.int xc), .val (.ref b1), .val (.int (xa + (xb &&& (7 : Int32)))), .val (.int (own_v1_22 xa xb)), .val (.int (own_v1_34 xa xb))] [(.int (1 : Int32)), (.int xc)])) ?_ (fun _ k => XS.iconst X3.here hx rfl (hb hby own_d1_46) k)
    by_cases hc47_5 : (1 : Int32) < xc
    · refine own_go (T' := T3) (f' := (mkF m 50 #[.val (.int xa), .val (.int xb), .val (.int xc), .val (.ref b1), .val (.int (xa + (xb &&& (7 : Int32)))), .val (.int (own_v1_22 xa xb)), .val (.int (own_v1_34 xa xb))] [])) ?_ (fun _ k => XS.icmpNo X3.here hx rfl (hb hby own_d1_47) rfl (tlt hc47_5).2.2.2 k)
      refine own_go (T' := T3) (f' := (mkF m 51 #[.val (.int xa), .val (.int xb), .val (.int xc), .val (.ref b1), .val (.int (xa + (xb &&& (7 : Int32)))), .val (.int (own_v1_22 xa xb)), .val (.int (own_v1_34 xa xb))] [(.ref b1)])) ?_ (fun _ k => XS.aloadN X3.here hx rfl (hb hby own_d1_50) rfl rfl k)
      refine own_go (T' := T3) (f' := (mkF m 52 #[.val (.int xa), .val (.int xb), .val (.int xc), .val (.ref b1), .val (.int (xa + (xb &&& (7 : Int32)))), .val (.int (own_v1_22 xa xb)), .val (.int (own_v1_34 xa xb))] [(.int (1 : Int32)), (.ref b1)])) ?_ (fun _ k => XS.iconst X3.here hx rfl (hb hby own_d1_51) k)
      refine own_go (T' := T3) (f' := (mkF m 54 #[.val (.int xa), .val (.int xb), .val (.int xc), .val (.ref b1), .val (.int (xa + (xb &&& (7 : Int32)))), .val (.int (own_v1_22 xa xb)), .val (.int (own_v1_34 xa xb))] [(.int (own_v1_22 xa xb)), (.int (1 : Int32)), (.ref b1)])) ?_ (fun _ k => XS.iload X3.here hx rfl (hb hby own_d1_52) rfl  k)
      obtain ⟨T6, h6, X6, e6, W6, F6, st6⟩ := own_stI X3 hx hZ e3 Fw3 (j := (1 : Int32)) ⟨(by decide), hc47_5⟩ (g := (mkF m 54 #[.val (.int xa), .val (.int xb), .val (.int xc), .val (.ref b1), .val (.int (xa + (xb &&& (7 : Int32)))), .val (.int (own_v1_22 xa xb)), .val (.int (own_v1_34 xa xb))] [(.int (own_v1_22 xa xb)), (.int (1 : Int32)), (.ref b1)])) rfl rfl (hb hby own_d1_54)
      have Fw6 : own_AI Z h6 b1 .int xc (((List.replicate (xc).toNatClampNeg (0 : Int32)).set ((0 : Int32)).toNatClampNeg (xa + (xb &&& (7 : Int32)))).set ((1 : Int32)).toNatClampNeg (own_v1_22 xa xb)) := F6
      have N6 := Fr.snoc X6 N3 g_b1
      have KK6 : Keep h0 h6 [] := KK3.wr W6 (Or.inr sz_b1)
      have ZZ6 : n0 ≤ h6.size := Nat.le_trans ZZ3 (Keep.of_wr W6).1
      refine own_go (T' := T6) (f' := (mkF m 55 #[.val (.int xa), .val (.int xb), .val (.int xc), .val (.ref b1), .val (.int (xa + (xb &&& (7 : Int32)))), .val (.int (own_v1_22 xa xb)), .val (.int (own_v1_34 xa xb))] [])) ?_ (st6)
      refine own_go (T' := T6) (f' := (mkF m 56 #[.val (.int xa), .val (.int xb), .val (.int xc), .val (.ref b1), .val (.int (xa + (xb &&& (7 : Int32)))), .val (.int (own_v1_22 xa xb)), .val (.int (own_v1_34 xa xb))] [(.int xc)])) ?_ (fun _ k => XS.iloadN X6.here hx rfl (hb hby own_d1_55) rfl  k)
      refine own_go (T' := T6) (f' := (mkF m 57 #[.val (.int xa), .val (.int xb), .val (.int xc), .val (.ref b1), .val (.int (xa + (xb &&& (7 : Int32)))), .val (.int (own_v1_22 xa xb)), .val (.int (own_v1_34 xa xb))] [(.int (2 : Int32)), (.int xc)])) ?_ (fun _ k => XS.iconst X6.here hx rfl (hb hby own_d1_56) k)
      by_cases hc57_8 : (2 : Int32) < xc
      · refine own_go (T' := T6) (f' := (mkF m 60 #[.val (.int xa), .val (.int xb), .val (.int xc), .val (.ref b1), .val (.int (xa + (xb &&& (7 : Int32)))), .val (.int (own_v1_22 xa xb)), .val (.int (own_v1_34 xa xb))] [])) ?_ (fun _ k => XS.icmpNo X6.here hx rfl (hb hby own_d1_57) rfl (tlt hc57_8).2.2.2 k)
        refine own_go (T' := T6) (f' := (mkF m 61 #[.val (.int xa), .val (.int xb), .val (.int xc), .val (.ref b1), .val (.int (xa + (xb &&& (7 : Int32)))), .val (.int (own_v1_22 xa xb)), .val (.int (own_v1_34 xa xb))] [(.ref b1)])) ?_ (fun _ k => XS.aloadN X6.here hx rfl (hb hby own_d1_60) rfl rfl k)
        refine own_go (T' := T6) (f' := (mkF m 62 #[.val (.int xa), .val (.int xb), .val (.int xc), .val (.ref b1), .val (.int (xa + (xb &&& (7 : Int32)))), .val (.int (own_v1_22 xa xb)), .val (.int (own_v1_34 xa xb))] [(.int (2 : Int32)), (.ref b1)])) ?_ (fun _ k => XS.iconst X6.here hx rfl (hb hby own_d1_61) k)
        refine own_go (T' := T6) (f' := (mkF m 64 #[.val (.int xa), .val (.int xb), .val (.int xc), .val (.ref b1), .val (.int (xa + (xb &&& (7 : Int32)))), .val (.int (own_v1_22 xa xb)), .val (.int (own_v1_34 xa xb))] [(.int (own_v1_34 xa xb)), (.int (2 : Int32)), (.ref b1)])) ?_ (fun _ k => XS.iload X6.here hx rfl (hb hby own_d1_62) rfl  k)
        obtain ⟨T9, h9, X9, e9, W9, F9, st9⟩ := own_stI X6 hx hZ e6 Fw6 (j := (2 : Int32)) ⟨(by decide), hc57_8⟩ (g := (mkF m 64 #[.val (.int xa), .val (.int xb), .val (.int xc), .val (.ref b1), .val (.int (xa + (xb &&& (7 : Int32)))), .val (.int (own_v1_22 xa xb)), .val (.int (own_v1_34 xa xb))] [(.int (own_v1_34 xa xb)), (.int (2 : Int32)), (.ref b1)])) rfl rfl (hb hby own_d1_64)
        have Fw9 : own_AI Z h9 b1 .int xc ((((List.replicate (xc).toNatClampNeg (0 : Int32)).set ((0 : Int32)).toNatClampNeg (xa + (xb &&& (7 : Int32)))).set ((1 : Int32)).toNatClampNeg (own_v1_22 xa xb)).set ((2 : Int32)).toNatClampNeg (own_v1_34 xa xb)) := F9
        have N9 := Fr.snoc X9 N6 g_b1
        have KK9 : Keep h0 h9 [] := KK6.wr W9 (Or.inr sz_b1)
        have ZZ9 : n0 ≤ h9.size := Nat.le_trans ZZ6 (Keep.of_wr W9).1
        refine own_go (T' := T9) (f' := (mkF m 65 #[.val (.int xa), .val (.int xb), .val (.int xc), .val (.ref b1), .val (.int (xa + (xb &&& (7 : Int32)))), .val (.int (own_v1_22 xa xb)), .val (.int (own_v1_34 xa xb))] [])) ?_ (st9)
        refine own_go (T' := T9) (f' := (mkF m 66 #[.val (.int xa), .val (.int xb), .val (.int xc), .val (.ref b1), .val (.int (xa + (xb &&& (7 : Int32)))), .val (.int (own_v1_22 xa xb)), .val (.int (own_v1_34 xa xb))] [(.ref b1)])) ?_ (fun _ k => XS.aloadN X9.here hx rfl (hb hby own_d1_65) rfl rfl k)
        obtain ⟨fs11, hr11, hrun11, hended11, hW11, hsame11⟩ := X9.leave (v := some (.ref b1)) (fun h => by rw [Bd.returns] at h; cases h)
        refine ⟨_, ⟨_, hrun11, hended11, _, _, rfl, ?_, ⟨_, rfl⟩, hW11, hsame11.mono (by decide) (by decide)⟩, fun _ k => (X9.areturnOut hx rfl Bd.returns rfl (hb hby own_d1_66) hr11).trans k⟩
        show own_Q1 Z xa xb xc h0 n0 _ T9.heap _
        rw [e9]
        exact ⟨b1, rfl, N9, KK9, sz_b1, (by rw [show (own_list1 xa xb xc) = ((((List.replicate (xc).toNatClampNeg (0 : Int32)).set ((0 : Int32)).toNatClampNeg (xa + (xb &&& (7 : Int32)))).set ((1 : Int32)).toNatClampNeg (own_v1_22 xa xb)).set ((2 : Int32)).toNatClampNeg (own_v1_34 xa xb)) from (Eq.trans (if_pos hc37_2) (Eq.trans (if_pos hc47_5) (if_pos hc57_8)))]; exact Fw9)⟩
      · refine own_go (T' := T6) (f' := (mkF m 65 #[.val (.int xa), .val (.int xb), .val (.int xc), .val (.ref b1), .val (.int (xa + (xb &&& (7 : Int32)))), .val (.int (own_v1_22 xa xb)), .val (.int (own_v1_34 xa xb))] [])) ?_ (fun _ k => XS.icmpYes X6.here hx rfl (pc0 := 57) (pc' := 65) rfl (hb hby own_d1_57) rfl (flt hc57_8).2.2.2 (by decide) (by decide) k)
        refine own_go (T' := T6) (f' := (mkF m 66 #[.val (.int xa), .val (.int xb), .val (.int xc), .val (.ref b1), .val (.int (xa + (xb &&& (7 : Int32)))), .val (.int (own_v1_22 xa xb)), .val (.int (own_v1_34 xa xb))] [(.ref b1)])) ?_ (fun _ k => XS.aloadN X6.here hx rfl (hb hby own_d1_65) rfl rfl k)
        obtain ⟨fs12, hr12, hrun12, hended12, hW12, hsame12⟩ := X6.leave (v := some (.ref b1)) (fun h => by rw [Bd.returns] at h; cases h)
        refine ⟨_, ⟨_, hrun12, hended12, _, _, rfl, ?_, ⟨_, rfl⟩, hW12, hsame12.mono (by decide) (by decide)⟩, fun _ k => (X6.areturnOut hx rfl Bd.returns rfl (hb hby own_d1_66) hr12).trans k⟩
        show own_Q1 Z xa xb xc h0 n0 _ T6.heap _
        rw [e6]
        exact ⟨b1, rfl, N6, KK6, sz_b1, (by rw [show (own_list1 xa xb xc) = (((List.replicate (xc).toNatClampNeg (0 : Int32)).set ((0 : Int32)).toNatClampNeg (xa + (xb &&& (7 : Int32)))).set ((1 : Int32)).toNatClampNeg (own_v1_22 xa xb)) from (Eq.trans (if_pos hc37_2) (Eq.trans (if_pos hc47_5) (if_neg hc57_8)))]; exact Fw6)⟩
    · refine own_go (T' := T3) (f' := (mkF m 55 #[.val (.int xa), .val (.int xb), .val (.int xc), .val (.ref b1), .val (.int (xa + (xb &&& (7 : Int32)))), .val (.int (own_v1_22 xa xb)), .val (.int (own_v1_34 xa xb))] [])) ?_ (fun _ k => XS.icmpYes X3.here hx rfl (pc0 := 47) (pc' := 55) rfl (hb hby own_d1_47) rfl (flt hc47_5).2.2.2 (by decide) (by decide) k)
      refine own_go (T' := T3) (f' := (mkF m 56 #[.val (.int xa), .val (.int xb), .val (.int xc), .val (.ref b1), .val (.int (xa + (xb &&& (7 : Int32)))), .val (.int (own_v1_22 xa xb)), .val (.int (own_v1_34 xa xb))] [(.int xc)])) ?_ (fun _ k => XS.iloadN X3.here hx rfl (hb hby own_d1_55) rfl  k)
      refine own_go (T' := T3) (f' := (mkF m 57 #[.val (.int xa), .val (.int xb), .val (.int xc), .val (.ref b1), .val (.int (xa + (xb &&& (7 : Int32)))), .val (.int (own_v1_22 xa xb)), .val (.int (own_v1_34 xa xb))] [(.int (2 : Int32)), (.int xc)])) ?_ (fun _ k => XS.iconst X3.here hx rfl (hb hby own_d1_56) k)
      by_cases hc57_13 : (2 : Int32) < xc
      · refine own_go (T' := T3) (f' := (mkF m 60 #[.val (.int xa), .val (.int xb), .val (.int xc), .val (.ref b1), .val (.int (xa + (xb &&& (7 : Int32)))), .val (.int (own_v1_22 xa xb)), .val (.int (own_v1_34 xa xb))] [])) ?_ (fun _ k => XS.icmpNo X3.here hx rfl (hb hby own_d1_57) rfl (tlt hc57_13).2.2.2 k)
        refine own_go (T' := T3) (f' := (mkF m 61 #[.val (.int xa), .val (.int xb), .val (.int xc), .val (.ref b1), .val (.int (xa + (xb &&& (7 : Int32)))), .val (.int (own_v1_22 xa xb)), .val (.int (own_v1_34 xa xb))] [(.ref b1)])) ?_ (fun _ k => XS.aloadN X3.here hx rfl (hb hby own_d1_60) rfl rfl k)
        refine own_go (T' := T3) (f' := (mkF m 62 #[.val (.int xa), .val (.int xb), .val (.int xc), .val (.ref b1), .val (.int (xa + (xb &&& (7 : Int32)))), .val (.int (own_v1_22 xa xb)), .val (.int (own_v1_34 xa xb))] [(.int (2 : Int32)), (.ref b1)])) ?_ (fun _ k => XS.iconst X3.here hx rfl (hb hby own_d1_61) k)
        refine own_go (T' := T3) (f' := (mkF m 64 #[.val (.int xa), .val (.int xb), .val (.int xc), .val (.ref b1), .val (.int (xa + (xb &&& (7 : Int32)))), .val (.int (own_v1_22 xa xb)), .val (.int (own_v1_34 xa xb))] [(.int (own_v1_34 xa xb)), (.int (2 : Int32)), (.ref b1)])) ?_ (fun _ k => XS.iload X3.here hx rfl (hb hby own_d1_62) rfl  k)
        obtain ⟨T14, h14, X14, e14, W14, F14, st14⟩ := own_stI X3 hx hZ e3 Fw3 (j := (2 : Int32)) ⟨(by decide), hc57_13⟩ (g := (mkF m 64 #[.val (.int xa), .val (.int xb), .val (.int xc), .val (.ref b1), .val (.int (xa + (xb &&& (7 : Int32)))), .val (.int (own_v1_22 xa xb)), .val (.int (own_v1_34 xa xb))] [(.int (own_v1_34 xa xb)), (.int (2 : Int32)), (.ref b1)])) rfl rfl (hb hby own_d1_64)
        have Fw14 : own_AI Z h14 b1 .int xc (((List.replicate (xc).toNatClampNeg (0 : Int32)).set ((0 : Int32)).toNatClampNeg (xa + (xb &&& (7 : Int32)))).set ((2 : Int32)).toNatClampNeg (own_v1_34 xa xb)) := F14
        have N14 := Fr.snoc X14 N3 g_b1
        have KK14 : Keep h0 h14 [] := KK3.wr W14 (Or.inr sz_b1)
        have ZZ14 : n0 ≤ h14.size := Nat.le_trans ZZ3 (Keep.of_wr W14).1
        refine own_go (T' := T14) (f' := (mkF m 65 #[.val (.int xa), .val (.int xb), .val (.int xc), .val (.ref b1), .val (.int (xa + (xb &&& (7 : Int32)))), .val (.int (own_v1_22 xa xb)), .val (.int (own_v1_34 xa xb))] [])) ?_ (st14)
        refine own_go (T' := T14) (f' := (mkF m 66 #[.val (.int xa), .val (.int xb), .val (.int xc), .val (.ref b1), .val (.int (xa + (xb &&& (7 : Int32)))), .val (.int (own_v1_22 xa xb)), .val (.int (own_v1_34 xa xb))] [(.ref b1)])) ?_ (fun _ k => XS.aloadN X14.here hx rfl (hb hby own_d1_65) rfl rfl k)
        obtain ⟨fs16, hr16, hrun16, hended16, hW16, hsame16⟩ := X14.leave (v := some (.ref b1)) (fun h => by rw [Bd.returns] at h; cases h)
        refine ⟨_, ⟨_, hrun16, hended16, _, _, rfl, ?_, ⟨_, rfl⟩, hW16, hsame16.mono (by decide) (by decide)⟩, fun _ k => (X14.areturnOut hx rfl Bd.returns rfl (hb hby own_d1_66) hr16).trans k⟩
        show own_Q1 Z xa xb xc h0 n0 _ T14.heap _
        rw [e14]
        exact ⟨b1, rfl, N14, KK14, sz_b1, (by rw [show (own_list1 xa xb xc) = (((List.replicate (xc).toNatClampNeg (0 : Int32)).set ((0 : Int32)).toNatClampNeg (xa + (xb &&& (7 : Int32)))).set ((2 : Int32)).toNatClampNeg (own_v1_34 xa xb)) from (Eq.trans (if_pos hc37_2) (Eq.trans (if_neg hc47_5) (if_pos hc57_13)))]; exact Fw14)⟩
      · refine own_go (T' := T3) (f' := (mkF m 65 #[.val (.int xa), .val (.int xb), .val (.int xc), .val (.ref b1), .val (.int (xa + (xb &&& (7 : Int32)))), .val (.int (own_v1_22 xa xb)), .val (.int (own_v1_34 xa xb))] [])) ?_ (fun _ k => XS.icmpYes X3.here hx rfl (pc0 := 57) (pc' := 65) rfl (hb hby own_d1_57) rfl (flt hc57_13).2.2.2 (by decide) (by decide) k)
        refine own_go (T' := T3) (f' := (mkF m 66 #[.val (.int xa), .val (.int xb), .val (.int xc), .val (.ref b1), .val (.int (xa + (xb &&& (7 : Int32)))), .val (.int (own_v1_22 xa xb)), .val (.int (own_v1_34 xa xb))] [(.ref b1)])) ?_ (fun _ k => XS.aloadN X3.here hx rfl (hb hby own_d1_65) rfl rfl k)
        obtain ⟨fs17, hr17, hrun17, hended17, hW17, hsame17⟩ := X3.leave (v := some (.ref b1)) (fun h => by rw [Bd.returns] at h; cases h)
        refine ⟨_, ⟨_, hrun17, hended17, _, _, rfl, ?_, ⟨_, rfl⟩, hW17, hsame17.mono (by decide) (by decide)⟩, fun _ k => (X3.areturnOut hx rfl Bd.returns rfl (hb hby own_d1_66) hr17).trans k⟩
        show own_Q1 Z xa xb xc h0 n0 _ T3.heap _
        rw [e3]
        exact ⟨b1, rfl, N3, KK3, sz_b1, (by rw [show (own_list1 xa xb xc) = ((List.replicate (xc).toNatClampNeg (0 : Int32)).set ((0 : Int32)).toNatClampNeg (xa + (xb &&& (7 : Int32)))) from (Eq.trans (if_pos hc37_2) (Eq.trans (if_neg hc47_5) (if_neg hc57_13)))]; exact Fw3)⟩
  · refine own_go (T' := T1) (f' := (mkF m 45 #[.val (.int xa), .val (.int xb), .val (.int xc), .val (.ref b1), .val (.int (xa + (xb &&& (7 : Int32)))), .val (.int (own_v1_22 xa xb)), .val (.int (own_v1_34 xa xb))] [])) ?_ (fun _ k => XS.ifYes X1.here hx rfl (pc0 := 37) (pc' := 45) rfl (hb hby own_d1_37) rfl ((if0 _ _).trans (flt hc37_2).2.2.2) (by decide) (by decide) k)
    refine own_go (T' := T1) (f' := (mkF m 46 #[.val (.int xa), .val (.int xb), .val (.int xc), .val (.ref b1), .val (.int (xa + (xb &&& (7 : Int32)))), .val (.int (own_v1_22 xa xb)), .val (.int (own_v1_34 xa xb))] [(.int xc)])) ?_ (fun _ k => XS.iloadN X1.here hx rfl (hb hby own_d1_45) rfl  k)
    refine own_go (T' := T1) (f' := (mkF m 47 #[.val (.int xa), .val (.int xb), .val (.int xc), .val (.ref b1), .val (.int (xa + (xb &&& (7 : Int32)))), .val (.int (own_v1_22 xa xb)), .val (.int (own_v1_34 xa xb))] [(.int (1 : Int32)), (.int xc)])) ?_ (fun _ k => XS.iconst X1.here hx rfl (hb hby own_d1_46) k)
    by_cases hc47_18 : (1 : Int32) < xc
    · refine own_go (T' := T1) (f' := (mkF m 50 #[.val (.int xa), .val (.int xb), .val (.int xc), .val (.ref b1), .val (.int (xa + (xb &&& (7 : Int32)))), .val (.int (own_v1_22 xa xb)), .val (.int (own_v1_34 xa xb))] [])) ?_ (fun _ k => XS.icmpNo X1.here hx rfl (hb hby own_d1_47) rfl (tlt hc47_18).2.2.2 k)
      refine own_go (T' := T1) (f' := (mkF m 51 #[.val (.int xa), .val (.int xb), .val (.int xc), .val (.ref b1), .val (.int (xa + (xb &&& (7 : Int32)))), .val (.int (own_v1_22 xa xb)), .val (.int (own_v1_34 xa xb))] [(.ref b1)])) ?_ (fun _ k => XS.aloadN X1.here hx rfl (hb hby own_d1_50) rfl rfl k)
      refine own_go (T' := T1) (f' := (mkF m 52 #[.val (.int xa), .val (.int xb), .val (.int xc), .val (.ref b1), .val (.int (xa + (xb &&& (7 : Int32)))), .val (.int (own_v1_22 xa xb)), .val (.int (own_v1_34 xa xb))] [(.int (1 : Int32)), (.ref b1)])) ?_ (fun _ k => XS.iconst X1.here hx rfl (hb hby own_d1_51) k)
      refine own_go (T' := T1) (f' := (mkF m 54 #[.val (.int xa), .val (.int xb), .val (.int xc), .val (.ref b1), .val (.int (xa + (xb &&& (7 : Int32)))), .val (.int (own_v1_22 xa xb)), .val (.int (own_v1_34 xa xb))] [(.int (own_v1_22 xa xb)), (.int (1 : Int32)), (.ref b1)])) ?_ (fun _ k => XS.iload X1.here hx rfl (hb hby own_d1_52) rfl  k)
      obtain ⟨T19, h19, X19, e19, W19, F19, st19⟩ := own_stI X1 hx hZ e1 AA1 (j := (1 : Int32)) ⟨(by decide), hc47_18⟩ (g := (mkF m 54 #[.val (.int xa), .val (.int xb), .val (.int xc), .val (.ref b1), .val (.int (xa + (xb &&& (7 : Int32)))), .val (.int (own_v1_22 xa xb)), .val (.int (own_v1_34 xa xb))] [(.int (own_v1_22 xa xb)), (.int (1 : Int32)), (.ref b1)])) rfl rfl (hb hby own_d1_54)
      have Fw19 : own_AI Z h19 b1 .int xc ((List.replicate (xc).toNatClampNeg (0 : Int32)).set ((1 : Int32)).toNatClampNeg (own_v1_22 xa xb)) := F19
      have N19 := Fr.snoc X19 N0 g_b1
      have KK19 : Keep h0 h19 [] := KK1.wr W19 (Or.inr sz_b1)
      have ZZ19 : n0 ≤ h19.size := Nat.le_trans ZZ1 (Keep.of_wr W19).1
      refine own_go (T' := T19) (f' := (mkF m 55 #[.val (.int xa), .val (.int xb), .val (.int xc), .val (.ref b1), .val (.int (xa + (xb &&& (7 : Int32)))), .val (.int (own_v1_22 xa xb)), .val (.int (own_v1_34 xa xb))] [])) ?_ (st19)
      refine own_go (T' := T19) (f' := (mkF m 56 #[.val (.int xa), .val (.int xb), .val (.int xc), .val (.ref b1), .val (.int (xa + (xb &&& (7 : Int32)))), .val (.int (own_v1_22 xa xb)), .val (.int (own_v1_34 xa xb))] [(.int xc)])) ?_ (fun _ k => XS.iloadN X19.here hx rfl (hb hby own_d1_55) rfl  k)
      refine own_go (T' := T19) (f' := (mkF m 57 #[.val (.int xa), .val (.int xb), .val (.int xc), .val (.ref b1), .val (.int (xa + (xb &&& (7 : Int32)))), .val (.int (own_v1_22 xa xb)), .val (.int (own_v1_34 xa xb))] [(.int (2 : Int32)), (.int xc)])) ?_ (fun _ k => XS.iconst X19.here hx rfl (hb hby own_d1_56) k)
      by_cases hc57_21 : (2 : Int32) < xc
      · refine own_go (T' := T19) (f' := (mkF m 60 #[.val (.int xa), .val (.int xb), .val (.int xc), .val (.ref b1), .val (.int (xa + (xb &&& (7 : Int32)))), .val (.int (own_v1_22 xa xb)), .val (.int (own_v1_34 xa xb))] [])) ?_ (fun _ k => XS.icmpNo X19.here hx rfl (hb hby own_d1_57) rfl (tlt hc57_21).2.2.2 k)
        refine own_go (T' := T19) (f' := (mkF m 61 #[.val (.int xa), .val (.int xb), .val (.int xc), .val (.ref b1), .val (.int (xa + (xb &&& (7 : Int32)))), .val (.int (own_v1_22 xa xb)), .val (.int (own_v1_34 xa xb))] [(.ref b1)])) ?_ (fun _ k => XS.aloadN X19.here hx rfl (hb hby own_d1_60) rfl rfl k)
        refine own_go (T' := T19) (f' := (mkF m 62 #[.val (.int xa), .val (.int xb), .val (.int xc), .val (.ref b1), .val (.int (xa + (xb &&& (7 : Int32)))), .val (.int (own_v1_22 xa xb)), .val (.int (own_v1_34 xa xb))] [(.int (2 : Int32)), (.ref b1)])) ?_ (fun _ k => XS.iconst X19.here hx rfl (hb hby own_d1_61) k)
        refine own_go (T' := T19) (f' := (mkF m 64 #[.val (.int xa), .val (.int xb), .val (.int xc), .val (.ref b1), .val (.int (xa + (xb &&& (7 : Int32)))), .val (.int (own_v1_22 xa xb)), .val (.int (own_v1_34 xa xb))] [(.int (own_v1_34 xa xb)), (.int (2 : Int32)), (.ref b1)])) ?_ (fun _ k => XS.iload X19.here hx rfl (hb hby own_d1_62) rfl  k)
        obtain ⟨T22, h22, X22, e22, W22, F22, st22⟩ := own_stI X19 hx hZ e19 Fw19 (j := (2 : Int32)) ⟨(by decide), hc57_21⟩ (g := (mkF m 64 #[.val (.int xa), .val (.int xb), .val (.int xc), .val (.ref b1), .val (.int (xa + (xb &&& (7 : Int32)))), .val (.int (own_v1_22 xa xb)), .val (.int (own_v1_34 xa xb))] [(.int (own_v1_34 xa xb)), (.int (2 : Int32)), (.ref b1)])) rfl rfl (hb hby own_d1_64)
        have Fw22 : own_AI Z h22 b1 .int xc (((List.replicate (xc).toNatClampNeg (0 : Int32)).set ((1 : Int32)).toNatClampNeg (own_v1_22 xa xb)).set ((2 : Int32)).toNatClampNeg (own_v1_34 xa xb)) := F22
        have N22 := Fr.snoc X22 N19 g_b1
        have KK22 : Keep h0 h22 [] := KK19.wr W22 (Or.inr sz_b1)
        have ZZ22 : n0 ≤ h22.size := Nat.le_trans ZZ19 (Keep.of_wr W22).1
        refine own_go (T' := T22) (f' := (mkF m 65 #[.val (.int xa), .val (.int xb), .val (.int xc), .val (.ref b1), .val (.int (xa + (xb &&& (7 : Int32)))), .val (.int (own_v1_22 xa xb)), .val (.int (own_v1_34 xa xb))] [])) ?_ (st22)
        refine own_go (T' := T22) (f' := (mkF m 66 #[.val (.int xa), .val (.int xb), .val (.int xc), .val (.ref b1), .val (.int (xa + (xb &&& (7 : Int32)))), .val (.int (own_v1_22 xa xb)), .val (.int (own_v1_34 xa xb))] [(.ref b1)])) ?_ (fun _ k => XS.aloadN X22.here hx rfl (hb hby own_d1_65) rfl rfl k)
        obtain ⟨fs24, hr24, hrun24, hended24, hW24, hsame24⟩ := X22.leave (v := some (.ref b1)) (fun h => by rw [Bd.returns] at h; cases h)
        refine ⟨_, ⟨_, hrun24, hended24, _, _, rfl, ?_, ⟨_, rfl⟩, hW24, hsame24.mono (by decide) (by decide)⟩, fun _ k => (X22.areturnOut hx rfl Bd.returns rfl (hb hby own_d1_66) hr24).trans k⟩
        show own_Q1 Z xa xb xc h0 n0 _ T22.heap _
        rw [e22]
        exact ⟨b1, rfl, N22, KK22, sz_b1, (by rw [show (own_list1 xa xb xc) = (((List.replicate (xc).toNatClampNeg (0 : Int32)).set ((1 : Int32)).toNatClampNeg (own_v1_22 xa xb)).set ((2 : Int32)).toNatClampNeg (own_v1_34 xa xb)) from (Eq.trans (if_neg hc37_2) (Eq.trans (if_pos hc47_18) (if_pos hc57_21)))]; exact Fw22)⟩
      · refine own_go (T' := T19) (f' := (mkF m 65 #[.val (.int xa), .val (.int xb), .val (.int xc), .val (.ref b1), .val (.int (xa + (xb &&& (7 : Int32)))), .val (.int (own_v1_22 xa xb)), .val (.int (own_v1_34 xa xb))] [])) ?_ (fun _ k => XS.icmpYes X19.here hx rfl (pc0 := 57) (pc' := 65) rfl (hb hby own_d1_57) rfl (flt hc57_21).2.2.2 (by decide) (by decide) k)
        refine own_go (T' := T19) (f' := (mkF m 66 #[.val (.int xa), .val (.int xb), .val (.int xc), .val (.ref b1), .val (.int (xa + (xb &&& (7 : Int32)))), .val (.int (own_v1_22 xa xb)), .val (.int (own_v1_34 xa xb))] [(.ref b1)])) ?_ (fun _ k => XS.aloadN X19.here hx rfl (hb hby own_d1_65) rfl rfl k)
        obtain ⟨fs25, hr25, hrun25, hended25, hW25, hsame25⟩ := X19.leave (v := some (.ref b1)) (fun h => by rw [Bd.returns] at h; cases h)
        refine ⟨_, ⟨_, hrun25, hended25, _, _, rfl, ?_, ⟨_, rfl⟩, hW25, hsame25.mono (by decide) (by decide)⟩, fun _ k => (X19.areturnOut hx rfl Bd.returns rfl (hb hby own_d1_66) hr25).trans k⟩
        show own_Q1 Z xa xb xc h0 n0 _ T19.heap _
        rw [e19]
        exact ⟨b1, rfl, N19, KK19, sz_b1, (by rw [show (own_list1 xa xb xc) = ((List.replicate (xc).toNatClampNeg (0 : Int32)).set ((1 : Int32)).toNatClampNeg (own_v1_22 xa xb)) from (Eq.trans (if_neg hc37_2) (Eq.trans (if_pos hc47_18) (if_neg hc57_21)))]; exact Fw19)⟩
    · refine own_go (T' := T1) (f' := (mkF m 55 #[.val (.int xa), .val (.int xb), .val (.int xc), .val (.ref b1), .val (.int (xa + (xb &&& (7 : Int32)))), .val (.int (own_v1_22 xa xb)), .val (.int (own_v1_34 xa xb))] [])) ?_ (fun _ k => XS.icmpYes X1.here hx rfl (pc0 := 47) (pc' := 55) rfl (hb hby own_d1_47) rfl (flt hc47_18).2.2.2 (by decide) (by decide) k)
      refine own_go (T' := T1) (f' := (mkF m 56 #[.val (.int xa), .val (.int xb), .val (.int xc), .val (.ref b1), .val (.int (xa + (xb &&& (7 : Int32)))), .val (.int (own_v1_22 xa xb)), .val (.int (own_v1_34 xa xb))] [(.int xc)])) ?_ (fun _ k => XS.iloadN X1.here hx rfl (hb hby own_d1_55) rfl  k)
      refine own_go (T' := T1) (f' := (mkF m 57 #[.val (.int xa), .val (.int xb), .val (.int xc), .val (.ref b1), .val (.int (xa + (xb &&& (7 : Int32)))), .val (.int (own_v1_22 xa xb)), .val (.int (own_v1_34 xa xb))] [(.int (2 : Int32)), (.int xc)])) ?_ (fun _ k => XS.iconst X1.here hx rfl (hb hby own_d1_56) k)
      by_cases hc57_26 : (2 : Int32) < xc
      · refine own_go (T' := T1) (f' := (mkF m 60 #[.val (.int xa), .val (.int xb), .val (.int xc), .val (.ref b1), .val (.int (xa + (xb &&& (7 : Int32)))), .val (.int (own_v1_22 xa xb)), .val (.int (own_v1_34 xa xb))] [])) ?_ (fun _ k => XS.icmpNo X1.here hx rfl (hb hby own_d1_57) rfl (tlt hc57_26).2.2.2 k)
        refine own_go (T' := T1) (f' := (mkF m 61 #[.val (.int xa), .val (.int xb), .val (.int xc), .val (.ref b1), .val (.int (xa + (xb &&& (7 : Int32)))), .val (.int (own_v1_22 xa xb)), .val (.int (own_v1_34 xa xb))] [(.ref b1)])) ?_ (fun _ k => XS.aloadN X1.here hx rfl (hb hby own_d1_60) rfl rfl k)
        refine own_go (T' := T1) (f' := (mkF m 62 #[.val (.int xa), .val (.int xb), .val (.int xc), .val (.ref b1), .val (.int (xa + (xb &&& (7 : Int32)))), .val (.int (own_v1_22 xa xb)), .val (.int (own_v1_34 xa xb))] [(.int (2 : Int32)), (.ref b1)])) ?_ (fun _ k => XS.iconst X1.here hx rfl (hb hby own_d1_61) k)
        refine own_go (T' := T1) (f' := (mkF m 64 #[.val (.int xa), .val (.int xb), .val (.int xc), .val (.ref b1), .val (.int (xa + (xb &&& (7 : Int32)))), .val (.int (own_v1_22 xa xb)), .val (.int (own_v1_34 xa xb))] [(.int (own_v1_34 xa xb)), (.int (2 : Int32)), (.ref b1)])) ?_ (fun _ k => XS.iload X1.here hx rfl (hb hby own_d1_62) rfl  k)
        obtain ⟨T27, h27, X27, e27, W27, F27, st27⟩ := own_stI X1 hx hZ e1 AA1 (j := (2 : Int32)) ⟨(by decide), hc57_26⟩ (g := (mkF m 64 #[.val (.int xa), .val (.int xb), .val (.int xc), .val (.ref b1), .val (.int (xa + (xb &&& (7 : Int32)))), .val (.int (own_v1_22 xa xb)), .val (.int (own_v1_34 xa xb))] [(.int (own_v1_34 xa xb)), (.int (2 : Int32)), (.ref b1)])) rfl rfl (hb hby own_d1_64)
        have Fw27 : own_AI Z h27 b1 .int xc ((List.replicate (xc).toNatClampNeg (0 : Int32)).set ((2 : Int32)).toNatClampNeg (own_v1_34 xa xb)) := F27
        have N27 := Fr.snoc X27 N0 g_b1
        have KK27 : Keep h0 h27 [] := KK1.wr W27 (Or.inr sz_b1)
        have ZZ27 : n0 ≤ h27.size := Nat.le_trans ZZ1 (Keep.of_wr W27).1
        refine own_go (T' := T27) (f' := (mkF m 65 #[.val (.int xa), .val (.int xb), .val (.int xc), .val (.ref b1), .val (.int (xa + (xb &&& (7 : Int32)))), .val (.int (own_v1_22 xa xb)), .val (.int (own_v1_34 xa xb))] [])) ?_ (st27)
        refine own_go (T' := T27) (f' := (mkF m 66 #[.val (.int xa), .val (.int xb), .val (.int xc), .val (.ref b1), .val (.int (xa + (xb &&& (7 : Int32)))), .val (.int (own_v1_22 xa xb)), .val (.int (own_v1_34 xa xb))] [(.ref b1)])) ?_ (fun _ k => XS.aloadN X27.here hx rfl (hb hby own_d1_65) rfl rfl k)
        obtain ⟨fs29, hr29, hrun29, hended29, hW29, hsame29⟩ := X27.leave (v := some (.ref b1)) (fun h => by rw [Bd.returns] at h; cases h)
        refine ⟨_, ⟨_, hrun29, hended29, _, _, rfl, ?_, ⟨_, rfl⟩, hW29, hsame29.mono (by decide) (by decide)⟩, fun _ k => (X27.areturnOut hx rfl Bd.returns rfl (hb hby own_d1_66) hr29).trans k⟩
        show own_Q1 Z xa xb xc h0 n0 _ T27.heap _
        rw [e27]
        exact ⟨b1, rfl, N27, KK27, sz_b1, (by rw [show (own_list1 xa xb xc) = ((List.replicate (xc).toNatClampNeg (0 : Int32)).set ((2 : Int32)).toNatClampNeg (own_v1_34 xa xb)) from (Eq.trans (if_neg hc37_2) (Eq.trans (if_neg hc47_18) (if_pos hc57_26)))]; exact Fw27)⟩
      · refine own_go (T' := T1) (f' := (mkF m 65 #[.val (.int xa), .val (.int xb), .val (.int xc), .val (.ref b1), .val (.int (xa + (xb &&& (7 : Int32)))), .val (.int (own_v1_22 xa xb)), .val (.int (own_v1_34 xa xb))] [])) ?_ (fun _ k => XS.icmpYes X1.here hx rfl (pc0 := 57) (pc' := 65) rfl (hb hby own_d1_57) rfl (flt hc57_26).2.2.2 (by decide) (by decide) k)
        refine own_go (T' := T1) (f' := (mkF m 66 #[.val (.int xa), .val (.int xb), .val (.int xc), .val (.ref b1), .val (.int (xa + (xb &&& (7 : Int32)))), .val (.int (own_v1_22 xa xb)), .val (.int (own_v1_34 xa xb))] [(.ref b1)])) ?_ (fun _ k => XS.aloadN X1.here hx rfl (hb hby own_d1_65) rfl rfl k)
        obtain ⟨fs30, hr30, hrun30, hended30, hW30, hsame30⟩ := X1.leave (v := some (.ref b1)) (fun h => by rw [Bd.returns] at h; cases h)
        refine ⟨_, ⟨_, hrun30, hended30, _, _, rfl, ?_, ⟨_, rfl⟩, hW30, hsame30.mono (by decide) (by decide)⟩, fun _ k => (X1.areturnOut hx rfl Bd.returns rfl (hb hby own_d1_66) hr30).trans k⟩
        show own_Q1 Z xa xb xc h0 n0 _ T1.heap _
        rw [e1]
        exact ⟨b1, rfl, N0, KK1, sz_b1, (by rw [show (own_list1 xa xb xc) = (List.replicate (xc).toNatClampNeg (0 : Int32)) from (Eq.trans (if_neg hc37_2) (Eq.trans (if_neg hc47_18) (if_neg hc57_26)))]; exact AA1)⟩
theorem own_d2_0 : decode method_5_code 0 = .ok (.iload_n 1, 1) := by decide +kernel
theorem own_d2_1 : decode method_5_code 1 = .ok (.aload_n 0, 1) := by decide +kernel
theorem own_d2_2 : decode method_5_code 2 = .ok (.arraylength, 1) := by decide +kernel
theorem own_d2_3 : decode method_5_code 3 = .ok (.if_icmp .ge 9, 3) := by decide +kernel
theorem own_d2_6 : decode method_5_code 6 = .ok (.iload_n 3, 1) := by decide +kernel
theorem own_d2_7 : decode method_5_code 7 = .ok (.aload_n 2, 1) := by decide +kernel
theorem own_d2_8 : decode method_5_code 8 = .ok (.arraylength, 1) := by decide +kernel
theorem own_d2_9 : decode method_5_code 9 = .ok (.if_icmp .lt 5, 3) := by decide +kernel
theorem own_d2_12 : decode method_5_code 12 = .ok (.iconst 0, 1) := by decide +kernel
theorem own_d2_13 : decode method_5_code 13 = .ok (.ireturn, 1) := by decide +kernel
theorem own_d2_14 : decode method_5_code 14 = .ok (.aload_n 0, 1) := by decide +kernel
theorem own_d2_15 : decode method_5_code 15 = .ok (.iload_n 1, 1) := by decide +kernel
theorem own_d2_16 : decode method_5_code 16 = .ok (.iaload, 1) := by decide +kernel
theorem own_d2_17 : decode method_5_code 17 = .ok (.i2l, 1) := by decide +kernel
theorem own_d2_18 : decode method_5_code 18 = .ok (.lconst 1, 1) := by decide +kernel
theorem own_d2_19 : decode method_5_code 19 = .ok (.ladd, 1) := by decide +kernel
theorem own_d2_20 : decode method_5_code 20 = .ok (.aload_n 2, 1) := by decide +kernel
theorem own_d2_21 : decode method_5_code 21 = .ok (.iload_n 3, 1) := by decide +kernel
theorem own_d2_22 : decode method_5_code 22 = .ok (.iaload, 1) := by decide +kernel
theorem own_d2_23 : decode method_5_code 23 = .ok (.i2l, 1) := by decide +kernel
theorem own_d2_24 : decode method_5_code 24 = .ok (.lcmp, 1) := by decide +kernel
theorem own_d2_25 : decode method_5_code 25 = .ok (.ifCond .ne 7, 3) := by decide +kernel
theorem own_d2_28 : decode method_5_code 28 = .ok (.iconst 1, 1) := by decide +kernel
theorem own_d2_29 : decode method_5_code 29 = .ok (.goto 4, 3) := by decide +kernel
theorem own_d2_32 : decode method_5_code 32 = .ok (.iconst 0, 1) := by decide +kernel
theorem own_d2_33 : decode method_5_code 33 = .ok (.ireturn, 1) := by decide +kernel
def own_v2_25_s0 (xa : Int32) (xb : Int32) (LA : List Int32) (LB : List Int32) : Int32 := (if (lcmpW (((LA.getD (xa).toNatClampNeg 0).toInt64) + (1 : Int64)) ((LB.getD (xb).toNatClampNeg 0).toInt64)) = (0 : Int32) then (1 : Int32) else (0 : Int32))
def own_f2 (xa : Int32) (xb : Int32) (na : Int32) (LA : List Int32) (nb : Int32) (LB : List Int32) : Int32 := (if xa < na then (if xb < nb then (own_v2_25_s0 xa xb LA LB) else (0 : Int32)) else (0 : Int32))
theorem own_ef2 (m : MethodId) (oa : Addr) (xa : Int32) (ob : Addr) (xb : Int32) : entryFrame m #[(.ref oa), (.int xa), (.ref ob), (.int xb)] 4 = mkF m 0 #[.val (.ref oa), .val (.int xa), .val (.ref ob), .val (.int xb)] [] := by first | (simp [entryFrame, mkF, argsToLocals, Value.category]; done) | rfl
abbrev own_room2 : Room := { frames := 0, cells := 0, slots := 0, locals := 0 }
def own_Q2 (Z : State) (oa : Addr) (xa : Int32) (ob : Addr) (xb : Int32) (na : Int32) (LA : List Int32) (nb : Int32) (LB : List Int32) (h0 : Heap) (n0 : Nat) (v : Option Value) (h : Heap) (L : List Loc) : Prop := v = some (.int (own_f2 xa xb na LA nb LB)) ∧ Fr n0 L ∧ h = h0
set_option maxRecDepth 65536 in
set_option maxHeartbeats 40000000 in
theorem own_rm2 (l : Launch) (Z : State) (a0 : Array Value) (hw : ∀ d ∈ tables_1, d.before a0 Z = true) (ws : List Jvm.Cond) (oa : Addr) (xa : Int32) (ob : Addr) (xb : Int32) (na : Int32) (LA : List Int32) (nb : Int32) (LB : List Int32) (h0 : Heap) (n0 : Nat) (Z0 : n0 ≤ h0.size) (A_oa : own_AI Z h0 oa .int na LA) (A_ob : own_AI Z h0 ob .int nb LB) (hi : ¬ xa < (0 : Int32)) (hj : ¬ xb < (0 : Int32)) :
    MetFree l (⟨"com/example/term_proximity_ranking/termproximityranking/WindowsOrderedPinLaw", "hit", "([II[II)I"⟩ : MethodName) (head1 (Jvm.Cond.code (⟨"com/example/term_proximity_ranking/termproximityranking/WindowsOrderedPinLaw", "hit", "([II[II)I"⟩ : MethodName) method_5_code 4 (some .int) :: ws) own_room2) (fun a U => a = #[(.ref oa), (.int xa), (.ref ob), (.int xb)] ∧ Z.Warmed39 U.vm ∧ U.heap = h0) (fun _ _ _ _ _ => True) (fun _ U o U' => ∃ v L, o = .returned v ∧ own_Q2 Z oa xa ob xb na LA nb LB h0 n0 v U'.heap L ∧ FrameEnd U o U' L own_room2.cells own_room2.slots) := by
  refine MetFree.of_bodySF (plainFor_of_name own_pn0) hisR ?_
  intro p e s m args below meth c s₁ Bd hml0 hP hK
  obtain ⟨rfl, hZ, hh⟩ := hP
  have hx := Bd.exec
  have hby := Bd.bytes
  have hml : c.maxLocals = 4 := hml0
  have hown : s.vm.findClass "com/example/term_proximity_ranking/termproximityranking/WindowsOrderedPinLaw" = some m.cls := findClass_of_methodNamed Bd.named
  have hnm := (name_of_methodNamed Bd.named Bd.method).1
  have X0 : Stand p l e own_room2 s m #[(.ref oa), (.int xa), (.ref ob), (.int xb)] below meth c s₁ [] 0 0 := Stand.of_body Bd
  have e0 : s₁.heap = h0 := by rw [← hh, Bd.state]; rfl
  have N0 := Fr.nil n0
  refine own_out (Q := fun o U' => ∃ v L, o = .returned v ∧ own_Q2 Z oa xa ob xb na LA nb LB h0 n0 v U'.heap L ∧ FrameEnd s o U' L own_room2.cells own_room2.slots) ?_
  refine own_go (T' := s₁) (f' := (mkF m 0 #[.val (.ref oa), .val (.int xa), .val (.ref ob), .val (.int xb)] [])) ?_ (fun _ k => castTop (own_ef2 m oa xa ob xb) k)
  refine own_go (T' := s₁) (f' := (mkF m 1 #[.val (.ref oa), .val (.int xa), .val (.ref ob), .val (.int xb)] [(.int xa)])) ?_ (fun _ k => XS.iloadN X0.here hx rfl (hb hby own_d2_0) rfl  k)
  refine own_go (T' := s₁) (f' := (mkF m 2 #[.val (.ref oa), .val (.int xa), .val (.ref ob), .val (.int xb)] [(.ref oa), (.int xa)])) ?_ (fun _ k => XS.aloadN X0.here hx rfl (hb hby own_d2_1) rfl rfl k)
  refine own_go (T' := s₁) (f' := (mkF m 3 #[.val (.ref oa), .val (.int xa), .val (.ref ob), .val (.int xb)] [(.int na), (.int xa)])) ?_ (own_len X0 hx hZ e0 A_oa (g := (mkF m 2 #[.val (.ref oa), .val (.int xa), .val (.ref ob), .val (.int xb)] [(.ref oa), (.int xa)])) rfl rfl (hb hby own_d2_2))
  by_cases hc3_1 : xa < na
  · refine own_go (T' := s₁) (f' := (mkF m 6 #[.val (.ref oa), .val (.int xa), .val (.ref ob), .val (.int xb)] [])) ?_ (fun _ k => XS.icmpNo X0.here hx rfl (hb hby own_d2_3) rfl (tlt hc3_1).2.1 k)
    refine own_go (T' := s₁) (f' := (mkF m 7 #[.val (.ref oa), .val (.int xa), .val (.ref ob), .val (.int xb)] [(.int xb)])) ?_ (fun _ k => XS.iloadN X0.here hx rfl (hb hby own_d2_6) rfl  k)
    refine own_go (T' := s₁) (f' := (mkF m 8 #[.val (.ref oa), .val (.int xa), .val (.ref ob), .val (.int xb)] [(.ref ob), (.int xb)])) ?_ (fun _ k => XS.aloadN X0.here hx rfl (hb hby own_d2_7) rfl rfl k)
    refine own_go (T' := s₁) (f' := (mkF m 9 #[.val (.ref oa), .val (.int xa), .val (.ref ob), .val (.int xb)] [(.int nb), (.int xb)])) ?_ (own_len X0 hx hZ e0 A_ob (g := (mkF m 8 #[.val (.ref oa), .val (.int xa), .val (.ref ob), .val (.int xb)] [(.ref ob), (.int xb)])) rfl rfl (hb hby own_d2_8))
    by_cases hc9_2 : xb < nb
    · refine own_go (T' := s₁) (f' := (mkF m 14 #[.val (.ref oa), .val (.int xa), .val (.ref ob), .val (.int xb)] [])) ?_ (fun _ k => XS.icmpYes X0.here hx rfl (pc0 := 9) (pc' := 14) rfl (hb hby own_d2_9) rfl (tlt hc9_2).1 (by decide) (by decide) k)
      refine own_go (T' := s₁) (f' := (mkF m 15 #[.val (.ref oa), .val (.int xa), .val (.ref ob), .val (.int xb)] [(.ref oa)])) ?_ (fun _ k => XS.aloadN X0.here hx rfl (hb hby own_d2_14) rfl rfl k)
      refine own_go (T' := s₁) (f' := (mkF m 16 #[.val (.ref oa), .val (.int xa), .val (.ref ob), .val (.int xb)] [(.int xa), (.ref oa)])) ?_ (fun _ k => XS.iloadN X0.here hx rfl (hb hby own_d2_15) rfl  k)
      refine own_go (T' := s₁) (f' := (mkF m 17 #[.val (.ref oa), .val (.int xa), .val (.ref ob), .val (.int xb)] [(.int (LA.getD (xa).toNatClampNeg 0))])) ?_ (own_ldI X0 hx hZ e0 A_oa (j := xa) ⟨hi, hc3_1⟩ (g := (mkF m 16 #[.val (.ref oa), .val (.int xa), .val (.ref ob), .val (.int xb)] [(.int xa), (.ref oa)])) rfl rfl (hb hby own_d2_16))
      refine own_go (T' := s₁) (f' := (mkF m 18 #[.val (.ref oa), .val (.int xa), .val (.ref ob), .val (.int xb)] [(.long ((LA.getD (xa).toNatClampNeg 0).toInt64))])) ?_ (fun _ k => XS.i2l X0.here hx rfl (hb hby own_d2_17) rfl k)
      refine own_go (T' := s₁) (f' := (mkF m 19 #[.val (.ref oa), .val (.int xa), .val (.ref ob), .val (.int xb)] [(.long (1 : Int64)), (.long ((LA.getD (xa).toNatClampNeg 0).toInt64))])) ?_ (fun _ k => XS.lconst X0.here hx rfl (hb hby own_d2_18) k)
      refine own_go (T' := s₁) (f' := (mkF m 20 #[.val (.ref oa), .val (.int xa), .val (.ref ob), .val (.int xb)] [(.long (((LA.getD (xa).toNatClampNeg 0).toInt64) + (1 : Int64)))])) ?_ (fun _ k => XS.ladd X0.here hx rfl (hb hby own_d2_19) rfl k)
      refine own_go (T' := s₁) (f' := (mkF m 21 #[.val (.ref oa), .val (.int xa), .val (.ref ob), .val (.int xb)] [(.ref ob), (.long (((LA.getD (xa).toNatClampNeg 0).toInt64) + (1 : Int64)))])) ?_ (fun _ k => XS.aloadN X0.here hx rfl (hb hby own_d2_20) rfl rfl k)
      refine own_go (T' := s₁) (f' := (mkF m 22 #[.val (.ref oa), .val (.int xa), .val (.ref ob), .val (.int xb)] [(.int xb), (.ref ob), (.long (((LA.getD (xa).toNatClampNeg 0).toInt64) + (1 : Int64)))])) ?_ (fun _ k => XS.iloadN X0.here hx rfl (hb hby own_d2_21) rfl  k)
      refine own_go (T' := s₁) (f' := (mkF m 23 #[.val (.ref oa), .val (.int xa), .val (.ref ob), .val (.int xb)] [(.int (LB.getD (xb).toNatClampNeg 0)), (.long (((LA.getD (xa).toNatClampNeg 0).toInt64) + (1 : Int64)))])) ?_ (own_ldI X0 hx hZ e0 A_ob (j := xb) ⟨hj, hc9_2⟩ (g := (mkF m 22 #[.val (.ref oa), .val (.int xa), .val (.ref ob), .val (.int xb)] [(.int xb), (.ref ob), (.long (((LA.getD (xa).toNatClampNeg 0).toInt64) + (1 : Int64)))])) rfl rfl (hb hby own_d2_22))
      refine own_go (T' := s₁) (f' := (mkF m 24 #[.val (.ref oa), .val (.int xa), .val (.ref ob), .val (.int xb)] [(.long ((LB.getD (xb).toNatClampNeg 0).toInt64)), (.long (((LA.getD (xa).toNatClampNeg 0).toInt64) + (1 : Int64)))])) ?_ (fun _ k => XS.i2l X0.here hx rfl (hb hby own_d2_23) rfl k)
      refine own_go (T' := s₁) (f' := (mkF m 25 #[.val (.ref oa), .val (.int xa), .val (.ref ob), .val (.int xb)] [(.int (lcmpW (((LA.getD (xa).toNatClampNeg 0).toInt64) + (1 : Int64)) ((LB.getD (xb).toNatClampNeg 0).toInt64)))])) ?_ (fun _ k => XS.lcmp X0.here hx rfl (hb hby own_d2_24) rfl k)
      obtain ⟨_, ⟨T3, L3, rfl, X3, e3, N3⟩, mg3⟩ : own_Goes p.tables e below (fun uu => ∃ (T' : State) (L' : List Loc), uu = T'.setTop (mkF m 33 #[.val (.ref oa), .val (.int xa), .val (.ref ob), .val (.int xb)] [(.int (own_v2_25_s0 xa xb LA LB))]) ∧ Stand p l e own_room2 s m #[(.ref oa), (.int xa), (.ref ob), (.int xb)] below meth c T' L' 0 0 ∧ T'.heap = h0 ∧ Fr n0 L') s₁ (mkF m 25 #[.val (.ref oa), .val (.int xa), .val (.ref ob), .val (.int xb)] [(.int (lcmpW (((LA.getD (xa).toNatClampNeg 0).toInt64) + (1 : Int64)) ((LB.getD (xb).toNatClampNeg 0).toInt64)))]) := by
        by_cases hc25_4 : (lcmpW (((LA.getD (xa).toNatClampNeg 0).toInt64) + (1 : Int64)) ((LB.getD (xb).toNatClampNeg 0).toInt64)) = (0 : Int32)
        · refine own_go (T' := s₁) (f' := (mkF m 28 #[.val (.ref oa), .val (.int xa), .val (.ref ob), .val (.int xb)] [])) ?_ (fun _ k => XS.ifNo X0.here hx rfl (hb hby own_d2_25) rfl ((if0 _ _).trans (teq hc25_4).2) k)
          refine own_go (T' := s₁) (f' := (mkF m 29 #[.val (.ref oa), .val (.int xa), .val (.ref ob), .val (.int xb)] [(.int (1 : Int32))])) ?_ (fun _ k => XS.iconst X0.here hx rfl (hb hby own_d2_28) k)
          refine own_go (T' := s₁) (f' := (mkF m 33 #[.val (.ref oa), .val (.int xa), .val (.ref ob), .val (.int xb)] [(.int (1 : Int32))])) ?_ (fun _ k => XS.goto X0.here hx rfl (pc0 := 29) (pc' := 33) rfl (hb hby own_d2_29) (by decide) (by decide) k)
          have em5 : (own_v2_25_s0 xa xb LA LB) = (1 : Int32) := (if_pos hc25_4)
          exact ⟨_, ⟨s₁, _, (by rw [em5]), X0, e0, N0⟩, fun _ k => k⟩
        · refine own_go (T' := s₁) (f' := (mkF m 32 #[.val (.ref oa), .val (.int xa), .val (.ref ob), .val (.int xb)] [])) ?_ (fun _ k => XS.ifYes X0.here hx rfl (pc0 := 25) (pc' := 32) rfl (hb hby own_d2_25) rfl ((if0 _ _).trans (feq hc25_4).2) (by decide) (by decide) k)
          refine own_go (T' := s₁) (f' := (mkF m 33 #[.val (.ref oa), .val (.int xa), .val (.ref ob), .val (.int xb)] [(.int (0 : Int32))])) ?_ (fun _ k => XS.iconst X0.here hx rfl (hb hby own_d2_32) k)
          have em6 : (own_v2_25_s0 xa xb LA LB) = (0 : Int32) := (if_neg hc25_4)
          exact ⟨_, ⟨s₁, _, (by rw [em6]), X0, e0, N0⟩, fun _ k => k⟩
      refine own_go (T' := T3) (f' := (mkF m 33 #[.val (.ref oa), .val (.int xa), .val (.ref ob), .val (.int xb)] [(.int (own_v2_25_s0 xa xb LA LB))])) ?_ (mg3)
      obtain ⟨fs7, hr7, hrun7, hended7, hW7, hsame7⟩ := X3.leave (v := some (.int (own_v2_25_s0 xa xb LA LB))) (fun h => by rw [Bd.returns] at h; cases h)
      refine ⟨_, ⟨_, hrun7, hended7, _, _, rfl, ?_, ⟨_, rfl⟩, hW7, hsame7.mono (by decide) (by decide)⟩, fun _ k => (retI X3 hx Bd.returns (hb hby own_d2_33) hr7).trans k⟩
      show own_Q2 Z oa xa ob xb na LA nb LB h0 n0 _ T3.heap _
      rw [e3]
      exact ⟨(congrArg (fun z => some (Value.int z)) (show (own_v2_25_s0 xa xb LA LB) = (own_f2 xa xb na LA nb LB) from ((Eq.trans (if_pos hc3_1) (if_pos hc9_2))).symm)), N3, rfl⟩
    · refine own_go (T' := s₁) (f' := (mkF m 12 #[.val (.ref oa), .val (.int xa), .val (.ref ob), .val (.int xb)] [])) ?_ (fun _ k => XS.icmpNo X0.here hx rfl (hb hby own_d2_9) rfl (flt hc9_2).1 k)
      refine own_go (T' := s₁) (f' := (mkF m 13 #[.val (.ref oa), .val (.int xa), .val (.ref ob), .val (.int xb)] [(.int (0 : Int32))])) ?_ (fun _ k => XS.iconst X0.here hx rfl (hb hby own_d2_12) k)
      obtain ⟨fs8, hr8, hrun8, hended8, hW8, hsame8⟩ := X0.leave (v := some (.int (0 : Int32))) (fun h => by rw [Bd.returns] at h; cases h)
      refine ⟨_, ⟨_, hrun8, hended8, _, _, rfl, ?_, ⟨_, rfl⟩, hW8, hsame8.mono (by decide) (by decide)⟩, fun _ k => (retI X0 hx Bd.returns (hb hby own_d2_13) hr8).trans k⟩
      show own_Q2 Z oa xa ob xb na LA nb LB h0 n0 _ s₁.heap _
      rw [e0]
      exact ⟨(congrArg (fun z => some (Value.int z)) (show (0 : Int32) = (own_f2 xa xb na LA nb LB) from ((Eq.trans (if_pos hc3_1) (if_neg hc9_2))).symm)), N0, rfl⟩
  · refine own_go (T' := s₁) (f' := (mkF m 12 #[.val (.ref oa), .val (.int xa), .val (.ref ob), .val (.int xb)] [])) ?_ (fun _ k => XS.icmpYes X0.here hx rfl (pc0 := 3) (pc' := 12) rfl (hb hby own_d2_3) rfl (flt hc3_1).2.1 (by decide) (by decide) k)
    refine own_go (T' := s₁) (f' := (mkF m 13 #[.val (.ref oa), .val (.int xa), .val (.ref ob), .val (.int xb)] [(.int (0 : Int32))])) ?_ (fun _ k => XS.iconst X0.here hx rfl (hb hby own_d2_12) k)
    obtain ⟨fs9, hr9, hrun9, hended9, hW9, hsame9⟩ := X0.leave (v := some (.int (0 : Int32))) (fun h => by rw [Bd.returns] at h; cases h)
    refine ⟨_, ⟨_, hrun9, hended9, _, _, rfl, ?_, ⟨_, rfl⟩, hW9, hsame9.mono (by decide) (by decide)⟩, fun _ k => (retI X0 hx Bd.returns (hb hby own_d2_13) hr9).trans k⟩
    show own_Q2 Z oa xa ob xb na LA nb LB h0 n0 _ s₁.heap _
    rw [e0]
    exact ⟨(congrArg (fun z => some (Value.int z)) (show (0 : Int32) = (own_f2 xa xb na LA nb LB) from ((if_neg hc3_1)).symm)), N0, rfl⟩
theorem own_pd0 : parseMethodDescriptor "([II[II)I" = some ⟨[(.array .int), .int, (.array .int), .int], some .int⟩ := by decide +kernel
theorem own_d3_0 : decode method_4_code 0 = .ok (.aload_n 0, 1) := by decide +kernel
theorem own_d3_1 : decode method_4_code 1 = .ok (.iload_n 1, 1) := by decide +kernel
theorem own_d3_2 : decode method_4_code 2 = .ok (.aload_n 2, 1) := by decide +kernel
theorem own_d3_3 : decode method_4_code 3 = .ok (.iconst 0, 1) := by decide +kernel
theorem own_d3_4 : decode method_4_code 4 = .ok (.invokestatic 26, 3) := by decide +kernel
theorem own_d3_7 : decode method_4_code 7 = .ok (.aload_n 0, 1) := by decide +kernel
theorem own_d3_8 : decode method_4_code 8 = .ok (.iload_n 1, 1) := by decide +kernel
theorem own_d3_9 : decode method_4_code 9 = .ok (.aload_n 2, 1) := by decide +kernel
theorem own_d3_10 : decode method_4_code 10 = .ok (.iconst 1, 1) := by decide +kernel
theorem own_d3_11 : decode method_4_code 11 = .ok (.invokestatic 26, 3) := by decide +kernel
theorem own_d3_14 : decode method_4_code 14 = .ok (.iadd, 1) := by decide +kernel
theorem own_d3_15 : decode method_4_code 15 = .ok (.aload_n 0, 1) := by decide +kernel
theorem own_d3_16 : decode method_4_code 16 = .ok (.iload_n 1, 1) := by decide +kernel
theorem own_d3_17 : decode method_4_code 17 = .ok (.aload_n 2, 1) := by decide +kernel
theorem own_d3_18 : decode method_4_code 18 = .ok (.iconst 2, 1) := by decide +kernel
theorem own_d3_19 : decode method_4_code 19 = .ok (.invokestatic 26, 3) := by decide +kernel
theorem own_d3_22 : decode method_4_code 22 = .ok (.iadd, 1) := by decide +kernel
theorem own_d3_23 : decode method_4_code 23 = .ok (.ireturn, 1) := by decide +kernel
def own_f3 (xa : Int32) (na : Int32) (LA : List Int32) (nb : Int32) (LB : List Int32) : Int32 := (((own_f2 xa (0 : Int32) na LA nb LB) + (own_f2 xa (1 : Int32) na LA nb LB)) + (own_f2 xa (2 : Int32) na LA nb LB))
theorem own_ef3 (m : MethodId) (oa : Addr) (xa : Int32) (ob : Addr) : entryFrame m #[(.ref oa), (.int xa), (.ref ob)] 3 = mkF m 0 #[.val (.ref oa), .val (.int xa), .val (.ref ob)] [] := by first | (simp [entryFrame, mkF, argsToLocals, Value.category]; done) | rfl
abbrev own_room3 : Room := { frames := 1, cells := 0, slots := 0, locals := 16 }
def own_Q3 (Z : State) (oa : Addr) (xa : Int32) (ob : Addr) (na : Int32) (LA : List Int32) (nb : Int32) (LB : List Int32) (h0 : Heap) (n0 : Nat) (v : Option Value) (h : Heap) (L : List Loc) : Prop := v = some (.int (own_f3 xa na LA nb LB)) ∧ Fr n0 L ∧ h = h0
set_option maxRecDepth 65536 in
set_option maxHeartbeats 40000000 in
theorem own_rm3 (l : Launch) (Z : State) (a0 : Array Value) (hw : ∀ d ∈ tables_1, d.before a0 Z = true) (ws : List Jvm.Cond) (oa : Addr) (xa : Int32) (ob : Addr) (na : Int32) (LA : List Int32) (nb : Int32) (LB : List Int32) (h0 : Heap) (n0 : Nat) (Z0 : n0 ≤ h0.size) (A_oa : own_AI Z h0 oa .int na LA) (A_ob : own_AI Z h0 ob .int nb LB) (hi : ¬ xa < (0 : Int32)) :
    MetFree l (⟨"com/example/term_proximity_ranking/termproximityranking/WindowsOrderedPinLaw", "row", "([II[I)I"⟩ : MethodName) (head1 (Jvm.Cond.code (⟨"com/example/term_proximity_ranking/termproximityranking/WindowsOrderedPinLaw", "row", "([II[I)I"⟩ : MethodName) method_4_code 3 (some .int) :: ws) own_room3) (fun a U => a = #[(.ref oa), (.int xa), (.ref ob)] ∧ Z.Warmed39 U.vm ∧ U.heap = h0) (fun _ _ _ _ _ => True) (fun _ U o U' => ∃ v L, o = .returned v ∧ own_Q3 Z oa xa ob na LA nb LB h0 n0 v U'.heap L ∧ FrameEnd U o U' L own_room3.cells own_room3.slots) := by
  refine MetFree.of_bodySF (plainFor_of_name own_pn0) hisR ?_
  intro p e s m args below meth c s₁ Bd hml0 hP hK
  obtain ⟨rfl, hZ, hh⟩ := hP
  have hx := Bd.exec
  have hby := Bd.bytes
  have hml : c.maxLocals = 3 := hml0
  have hown : s.vm.findClass "com/example/term_proximity_ranking/termproximityranking/WindowsOrderedPinLaw" = some m.cls := findClass_of_methodNamed Bd.named
  have hnm := (name_of_methodNamed Bd.named Bd.method).1
  have X0 : Stand p l e own_room3 s m #[(.ref oa), (.int xa), (.ref ob)] below meth c s₁ [] 0 0 := Stand.of_body Bd
  have e0 : s₁.heap = h0 := by rw [← hh, Bd.state]; rfl
  have N0 := Fr.nil n0
  refine own_out (Q := fun o U' => ∃ v L, o = .returned v ∧ own_Q3 Z oa xa ob na LA nb LB h0 n0 v U'.heap L ∧ FrameEnd s o U' L own_room3.cells own_room3.slots) ?_
  refine own_go (T' := s₁) (f' := (mkF m 0 #[.val (.ref oa), .val (.int xa), .val (.ref ob)] [])) ?_ (fun _ k => castTop (own_ef3 m oa xa ob) k)
  refine own_go (T' := s₁) (f' := (mkF m 1 #[.val (.ref oa), .val (.int xa), .val (.ref ob)] [(.ref oa)])) ?_ (fun _ k => XS.aloadN X0.here hx rfl (hb hby own_d3_0) rfl rfl k)
  refine own_go (T' := s₁) (f' := (mkF m 2 #[.val (.ref oa), .val (.int xa), .val (.ref ob)] [(.int xa), (.ref oa)])) ?_ (fun _ k => XS.iloadN X0.here hx rfl (hb hby own_d3_1) rfl  k)
  refine own_go (T' := s₁) (f' := (mkF m 3 #[.val (.ref oa), .val (.int xa), .val (.ref ob)] [(.ref ob), (.int xa), (.ref oa)])) ?_ (fun _ k => XS.aloadN X0.here hx rfl (hb hby own_d3_2) rfl rfl k)
  refine own_go (T' := s₁) (f' := (mkF m 4 #[.val (.ref oa), .val (.int xa), .val (.ref ob)] [(.int (0 : Int32)), (.ref ob), (.int xa), (.ref oa)])) ?_ (fun _ k => XS.iconst X0.here hx rfl (hb hby own_d3_3) k)
  obtain ⟨_, _, ⟨T1, L1, k1, n1⟩, -, X1, ⟨Lc1, hQ1, l1, y1, z1⟩, st1⟩ := Jvm.LawKit.callS X0 hx (y := (⟨"com/example/term_proximity_ranking/termproximityranking/WindowsOrderedPinLaw", "hit", "([II[II)I"⟩ : MethodName)) hown (mvT hZ (hw _ (List.mem_of_getElem? (i := 9) rfl))) (mvT hZ (hw _ (List.mem_of_getElem? (i := 10) rfl))) (mvT hZ (hw _ (List.mem_of_getElem? (i := 3) rfl))) (mvT hZ (hw _ (List.mem_of_getElem? (i := 11) rfl))) (by decide) (backOf (W := 0) (own_rm2 l Z a0 hw [] oa xa ob (0 : Int32) na LA nb LB h0 n0 Z0 A_oa A_ob (by first | assumption | decide : ¬ xa < (0 : Int32)) (by first | assumption | decide : ¬ (0 : Int32) < (0 : Int32))) hZ (hw _ (List.mem_of_getElem? (i := 11) rfl)) (hw _ (List.mem_of_getElem? (i := 3) rfl)) (by decide) (by decide)) (g := (mkF m 4 #[.val (.ref oa), .val (.int xa), .val (.ref ob)] [(.int (0 : Int32)), (.ref ob), (.int xa), (.ref oa)])) rfl (by rw [hml]; rfl) (argsL := [(.ref oa), (.int xa), (.ref ob), (.int (0 : Int32))]) (rest := []) (lenOf own_pd0 rfl) rfl (by show 2 * 0 + _ ≤ _; exact Nat.le_of_eq rfl) (hb hby own_d3_4) (fun _ _ => ⟨rfl, e0, (by decide : 0 + 0 ≤ _), (by decide : 0 + 0 ≤ _)⟩)
  dsimp only [Pt.U, Pt.locs, Pt.cells, Pt.slots] at X1 l1 y1 z1 st1 hQ1
  subst y1 z1
  obtain ⟨rfl, N1q, e1⟩ := hQ1
  have N1 : Fr n0 L1 := l1 ▸ Fr.app N0 N1q
  refine own_go (T' := T1) (f' := (mkF m 7 #[.val (.ref oa), .val (.int xa), .val (.ref ob)] [(.int (own_f2 xa (0 : Int32) na LA nb LB))])) ?_ (st1)
  refine own_go (T' := T1) (f' := (mkF m 8 #[.val (.ref oa), .val (.int xa), .val (.ref ob)] [(.ref oa), (.int (own_f2 xa (0 : Int32) na LA nb LB))])) ?_ (fun _ k => XS.aloadN X1.here hx rfl (hb hby own_d3_7) rfl rfl k)
  refine own_go (T' := T1) (f' := (mkF m 9 #[.val (.ref oa), .val (.int xa), .val (.ref ob)] [(.int xa), (.ref oa), (.int (own_f2 xa (0 : Int32) na LA nb LB))])) ?_ (fun _ k => XS.iloadN X1.here hx rfl (hb hby own_d3_8) rfl  k)
  refine own_go (T' := T1) (f' := (mkF m 10 #[.val (.ref oa), .val (.int xa), .val (.ref ob)] [(.ref ob), (.int xa), (.ref oa), (.int (own_f2 xa (0 : Int32) na LA nb LB))])) ?_ (fun _ k => XS.aloadN X1.here hx rfl (hb hby own_d3_9) rfl rfl k)
  refine own_go (T' := T1) (f' := (mkF m 11 #[.val (.ref oa), .val (.int xa), .val (.ref ob)] [(.int (1 : Int32)), (.ref ob), (.int xa), (.ref oa), (.int (own_f2 xa (0 : Int32) na LA nb LB))])) ?_ (fun _ k => XS.iconst X1.here hx rfl (hb hby own_d3_10) k)
  obtain ⟨_, _, ⟨T2, L2, k2, n2⟩, -, X2, ⟨Lc2, hQ2, l2, y2, z2⟩, st2⟩ := Jvm.LawKit.callS X1 hx (y := (⟨"com/example/term_proximity_ranking/termproximityranking/WindowsOrderedPinLaw", "hit", "([II[II)I"⟩ : MethodName)) hown (mvT hZ (hw _ (List.mem_of_getElem? (i := 9) rfl))) (mvT hZ (hw _ (List.mem_of_getElem? (i := 10) rfl))) (mvT hZ (hw _ (List.mem_of_getElem? (i := 3) rfl))) (mvT hZ (hw _ (List.mem_of_getElem? (i := 11) rfl))) (by decide) (backOf (W := 1) (own_rm2 l Z a0 hw [] oa xa ob (1 : Int32) na LA nb LB h0 n0 Z0 A_oa A_ob (by first | assumption | decide : ¬ xa < (0 : Int32)) (by first | assumption | decide : ¬ (1 : Int32) < (0 : Int32))) hZ (hw _ (List.mem_of_getElem? (i := 11) rfl)) (hw _ (List.mem_of_getElem? (i := 3) rfl)) (by decide) (by decide)) (g := (mkF m 11 #[.val (.ref oa), .val (.int xa), .val (.ref ob)] [(.int (1 : Int32)), (.ref ob), (.int xa), (.ref oa), (.int (own_f2 xa (0 : Int32) na LA nb LB))])) rfl (by rw [hml]; rfl) (argsL := [(.ref oa), (.int xa), (.ref ob), (.int (1 : Int32))]) (rest := [(.int (own_f2 xa (0 : Int32) na LA nb LB))]) (lenOf own_pd0 rfl) rfl (by show 2 * 0 + _ ≤ _; exact Nat.le_of_eq rfl) (hb hby own_d3_11) (fun _ _ => ⟨rfl, e1, (by decide : 0 + 0 ≤ _), (by decide : 0 + 0 ≤ _)⟩)
  dsimp only [Pt.U, Pt.locs, Pt.cells, Pt.slots] at X2 l2 y2 z2 st2 hQ2
  subst y2 z2
  obtain ⟨rfl, N2q, e2⟩ := hQ2
  have N2 : Fr n0 L2 := l2 ▸ Fr.app N1 N2q
  refine own_go (T' := T2) (f' := (mkF m 14 #[.val (.ref oa), .val (.int xa), .val (.ref ob)] [(.int (own_f2 xa (1 : Int32) na LA nb LB)), (.int (own_f2 xa (0 : Int32) na LA nb LB))])) ?_ (st2)
  refine own_go (T' := T2) (f' := (mkF m 15 #[.val (.ref oa), .val (.int xa), .val (.ref ob)] [(.int ((own_f2 xa (0 : Int32) na LA nb LB) + (own_f2 xa (1 : Int32) na LA nb LB)))])) ?_ (fun _ k => XS.iadd X2.here hx rfl (hb hby own_d3_14) rfl k)
  refine own_go (T' := T2) (f' := (mkF m 16 #[.val (.ref oa), .val (.int xa), .val (.ref ob)] [(.ref oa), (.int ((own_f2 xa (0 : Int32) na LA nb LB) + (own_f2 xa (1 : Int32) na LA nb LB)))])) ?_ (fun _ k => XS.aloadN X2.here hx rfl (hb hby own_d3_15) rfl rfl k)
  refine own_go (T' := T2) (f' := (mkF m 17 #[.val (.ref oa), .val (.int xa), .val (.ref ob)] [(.int xa), (.ref oa), (.int ((own_f2 xa (0 : Int32) na LA nb LB) + (own_f2 xa (1 : Int32) na LA nb LB)))])) ?_ (fun _ k => XS.iloadN X2.here hx rfl (hb hby own_d3_16) rfl  k)
  refine own_go (T' := T2) (f' := (mkF m 18 #[.val (.ref oa), .val (.int xa), .val (.ref ob)] [(.ref ob), (.int xa), (.ref oa), (.int ((own_f2 xa (0 : Int32) na LA nb LB) + (own_f2 xa (1 : Int32) na LA nb LB)))])) ?_ (fun _ k => XS.aloadN X2.here hx rfl (hb hby own_d3_17) rfl rfl k)
  refine own_go (T' := T2) (f' := (mkF m 19 #[.val (.ref oa), .val (.int xa), .val (.ref ob)] [(.int (2 : Int32)), (.ref ob), (.int xa), (.ref oa), (.int ((own_f2 xa (0 : Int32) na LA nb LB) + (own_f2 xa (1 : Int32) na LA nb LB)))])) ?_ (fun _ k => XS.iconst X2.here hx rfl (hb hby own_d3_18) k)
  obtain ⟨_, _, ⟨T3, L3, k3, n3⟩, -, X3, ⟨Lc3, hQ3, l3, y3, z3⟩, st3⟩ := Jvm.LawKit.callS X2 hx (y := (⟨"com/example/term_proximity_ranking/termproximityranking/WindowsOrderedPinLaw", "hit", "([II[II)I"⟩ : MethodName)) hown (mvT hZ (hw _ (List.mem_of_getElem? (i := 9) rfl))) (mvT hZ (hw _ (List.mem_of_getElem? (i := 10) rfl))) (mvT hZ (hw _ (List.mem_of_getElem? (i := 3) rfl))) (mvT hZ (hw _ (List.mem_of_getElem? (i := 11) rfl))) (by decide) (backOf (W := 1) (own_rm2 l Z a0 hw [] oa xa ob (2 : Int32) na LA nb LB h0 n0 Z0 A_oa A_ob (by first | assumption | decide : ¬ xa < (0 : Int32)) (by first | assumption | decide : ¬ (2 : Int32) < (0 : Int32))) hZ (hw _ (List.mem_of_getElem? (i := 11) rfl)) (hw _ (List.mem_of_getElem? (i := 3) rfl)) (by decide) (by decide)) (g := (mkF m 19 #[.val (.ref oa), .val (.int xa), .val (.ref ob)] [(.int (2 : Int32)), (.ref ob), (.int xa), (.ref oa), (.int ((own_f2 xa (0 : Int32) na LA nb LB) + (own_f2 xa (1 : Int32) na LA nb LB)))])) rfl (by rw [hml]; rfl) (argsL := [(.ref oa), (.int xa), (.ref ob), (.int (2 : Int32))]) (rest := [(.int ((own_f2 xa (0 : Int32) na LA nb LB) + (own_f2 xa (1 : Int32) na LA nb LB)))]) (lenOf own_pd0 rfl) rfl (by show 2 * 0 + _ ≤ _; exact Nat.le_of_eq rfl) (hb hby own_d3_19) (fun _ _ => ⟨rfl, e2, (by decide : 0 + 0 ≤ _), (by decide : 0 + 0 ≤ _)⟩)
  dsimp only [Pt.U, Pt.locs, Pt.cells, Pt.slots] at X3 l3 y3 z3 st3 hQ3
  subst y3 z3
  obtain ⟨rfl, N3q, e3⟩ := hQ3
  have N3 : Fr n0 L3 := l3 ▸ Fr.app N2 N3q
  refine own_go (T' := T3) (f' := (mkF m 22 #[.val (.ref oa), .val (.int xa), .val (.ref ob)] [(.int (own_f2 xa (2 : Int32) na LA nb LB)), (.int ((own_f2 xa (0 : Int32) na LA nb LB) + (own_f2 xa (1 : Int32) na LA nb LB)))])) ?_ (st3)
  refine own_go (T' := T3) (f' := (mkF m 23 #[.val (.ref oa), .val (.int xa), .val (.ref ob)] [(.int (((own_f2 xa (0 : Int32) na LA nb LB) + (own_f2 xa (1 : Int32) na LA nb LB)) + (own_f2 xa (2 : Int32) na LA nb LB)))])) ?_ (fun _ k => XS.iadd X3.here hx rfl (hb hby own_d3_22) rfl k)
  obtain ⟨fs4, hr4, hrun4, hended4, hW4, hsame4⟩ := X3.leave (v := some (.int (((own_f2 xa (0 : Int32) na LA nb LB) + (own_f2 xa (1 : Int32) na LA nb LB)) + (own_f2 xa (2 : Int32) na LA nb LB)))) (fun h => by rw [Bd.returns] at h; cases h)
  refine ⟨_, ⟨_, hrun4, hended4, _, _, rfl, ?_, ⟨_, rfl⟩, hW4, hsame4.mono (by decide) (by decide)⟩, fun _ k => (retI X3 hx Bd.returns (hb hby own_d3_23) hr4).trans k⟩
  show own_Q3 Z oa xa ob na LA nb LB h0 n0 _ T3.heap _
  rw [e3]
  exact ⟨rfl, N3, rfl⟩
def own_skip (B : List Int32) (v : Int32) : Nat → Nat → Nat
  | 0, j => j
  | f + 1, j => if j < B.length then (if v < B.getD j 0 then j else own_skip B v f (j + 1)) else j
theorem own_skip_le (B : List Int32) (v : Int32) : ∀ (f j : Nat), j ≤ B.length → own_skip B v f j ≤ B.length
  | 0, j, h => h
  | f + 1, j, h => by
    unfold own_skip
    split
    · split
      · exact h
      · exact own_skip_le B v f (j + 1) (by omega)
    · exact h
theorem own_skip_end (B : List Int32) (v : Int32) (j : Nat) (h : ¬ j < B.length) : own_skip B v (B.length - j) j = j := by
  have e : B.length - j = 0 := by omega
  rw [e]; rfl
theorem own_skip_stop (B : List Int32) (v : Int32) (j : Nat) (h : j < B.length) (q : v < B.getD j 0) : own_skip B v (B.length - j) j = j := by
  have e : B.length - j = (B.length - (j + 1)) + 1 := by omega
  rw [e]; unfold own_skip; rw [if_pos h, if_pos q]
theorem own_skip_on (B : List Int32) (v : Int32) (j : Nat) (h : j < B.length) (q : ¬ v < B.getD j 0) : own_skip B v (B.length - j) j = own_skip B v (B.length - (j + 1)) (j + 1) := by
  have e : B.length - j = (B.length - (j + 1)) + 1 := by omega
  rw [e]; conv => lhs; unfold own_skip
  rw [if_pos h, if_neg q]
def own_ord (A B : List Int32) : Nat → Nat → Nat → Int32 → Int32
  | 0, _, _, cn => cn
  | f + 1, i, j, cn => if own_skip B (A.getD i 0) (B.length - j) j = B.length then cn else own_ord A B f (i + 1) (own_skip B (A.getD i 0) (B.length - j) j) (if B.getD (own_skip B (A.getD i 0) (B.length - j) j) 0 = A.getD i 0 + (1 : Int32) then cn + (1 : Int32) else cn)
abbrev own_roomO : Room := { frames := 0, cells := 0, slots := 0, locals := 0 }
theorem own_d4_29 : decode prog_27_method_2_code 29 = .ok (.iload_n 3, 1) := by decide +kernel
theorem own_d4_30 : decode prog_27_method_2_code 30 = .ok (.aload_n 1, 1) := by decide +kernel
theorem own_d4_31 : decode prog_27_method_2_code 31 = .ok (.arraylength, 1) := by decide +kernel
theorem own_d4_32 : decode prog_27_method_2_code 32 = .ok (.if_icmp .ge 17, 3) := by decide +kernel
theorem own_d4_35 : decode prog_27_method_2_code 35 = .ok (.aload_n 1, 1) := by decide +kernel
theorem own_d4_36 : decode prog_27_method_2_code 36 = .ok (.iload_n 3, 1) := by decide +kernel
theorem own_d4_37 : decode prog_27_method_2_code 37 = .ok (.iaload, 1) := by decide +kernel
theorem own_d4_38 : decode prog_27_method_2_code 38 = .ok (.iload 7, 2) := by decide +kernel
theorem own_d4_40 : decode prog_27_method_2_code 40 = .ok (.if_icmp .gt 9, 3) := by decide +kernel
theorem own_d4_43 : decode prog_27_method_2_code 43 = .ok (.iinc 3 1, 3) := by decide +kernel
theorem own_d4_46 : decode prog_27_method_2_code 46 = .ok (.goto (-17), 3) := by decide +kernel
set_option maxRecDepth 65536 in
set_option maxHeartbeats 40000000 in
theorem own_loop4a (l : Launch) (Z : State) (a0 : Array Value) (hw : ∀ d ∈ tables_1, d.before a0 Z = true) (oa : Addr) (ob : Addr) (na : Int32) (LA : List Int32) (nb : Int32) (LB : List Int32) (h0 : Heap) (n0 : Nat) (Z0 : n0 ≤ h0.size) (A_oa : own_AI Z h0 oa .int na LA) (A_ob : own_AI Z h0 ob .int nb LB) {p : Program} {e : Env} {s : State} {m : MethodId} {below : List Frame} {meth : Method} {c : Code} (hx : p.tables.exec = Jvm.exec) (hZ : Z.Warmed39 s.vm) (hby : c.code = prog_27_method_2_code) (hml : c.maxLocals = 8) (hown : s.vm.findClass "com/example/term_proximity_ranking/termproximityranking/Windows" = some m.cls) :
    ∀ (km : Nat) (T0 : State) (locs : List Loc) (cn : Int32) (jn : Nat) (xi : Int32) (xv : Int32), LB.length - jn = km → (jn ≤ LB.length) → Stand p l e own_roomO s m #[(.ref oa), (.ref ob)] below meth c T0 locs 0 0 → T0.heap = h0 → Fr n0 locs → own_Goes p.tables e below (fun uu => ∃ (T' : State) (L' : List Loc), uu = T'.setTop (mkF m 49 #[.val (.ref oa), .val (.ref ob), .val (.int cn), .val (.int (Int32.ofNat (own_skip LB xv (LB.length - jn) jn))), .val (.ref oa), .val (.int na), .val (.int xi), .val (.int xv)] []) ∧ Stand p l e own_roomO s m #[(.ref oa), (.ref ob)] below meth c T' L' 0 0 ∧ T'.heap = h0 ∧ Fr n0 L') T0 (mkF m 29 #[.val (.ref oa), .val (.ref ob), .val (.int cn), .val (.int (Int32.ofNat jn)), .val (.ref oa), .val (.int na), .val (.int xi), .val (.int xv)] []) := by
  intro km
  induction km using Nat.strongRecOn with
  | _ km ih =>
  intro T0 locs cn jn xi xv hkm hj X0 e0 N0
  refine own_go (T' := T0) (f' := (mkF m 30 #[.val (.ref oa), .val (.ref ob), .val (.int cn), .val (.int (Int32.ofNat jn)), .val (.ref oa), .val (.int na), .val (.int xi), .val (.int xv)] [(.int (Int32.ofNat jn))])) ?_ (fun _ k => XS.iloadN X0.here hx rfl (hb hby own_d4_29) rfl  k)
  refine own_go (T' := T0) (f' := (mkF m 31 #[.val (.ref oa), .val (.ref ob), .val (.int cn), .val (.int (Int32.ofNat jn)), .val (.ref oa), .val (.int na), .val (.int xi), .val (.int xv)] [(.ref ob), (.int (Int32.ofNat jn))])) ?_ (fun _ k => XS.aloadN X0.here hx rfl (hb hby own_d4_30) rfl rfl k)
  refine own_go (T' := T0) (f' := (mkF m 32 #[.val (.ref oa), .val (.ref ob), .val (.int cn), .val (.int (Int32.ofNat jn)), .val (.ref oa), .val (.int na), .val (.int xi), .val (.int xv)] [(.int nb), (.int (Int32.ofNat jn))])) ?_ (own_len X0 hx hZ e0 A_ob (g := (mkF m 31 #[.val (.ref oa), .val (.ref ob), .val (.int cn), .val (.int (Int32.ofNat jn)), .val (.ref oa), .val (.int na), .val (.int xi), .val (.int xv)] [(.ref ob), (.int (Int32.ofNat jn))])) rfl rfl (hb hby own_d4_31))
  by_cases hc32_1 : (Int32.ofNat jn) < nb
  · refine own_go (T' := T0) (f' := (mkF m 35 #[.val (.ref oa), .val (.ref ob), .val (.int cn), .val (.int (Int32.ofNat jn)), .val (.ref oa), .val (.int na), .val (.int xi), .val (.int xv)] [])) ?_ (fun _ k => XS.icmpNo X0.here hx rfl (hb hby own_d4_32) rfl (tlt hc32_1).2.1 k)
    refine own_go (T' := T0) (f' := (mkF m 36 #[.val (.ref oa), .val (.ref ob), .val (.int cn), .val (.int (Int32.ofNat jn)), .val (.ref oa), .val (.int na), .val (.int xi), .val (.int xv)] [(.ref ob)])) ?_ (fun _ k => XS.aloadN X0.here hx rfl (hb hby own_d4_35) rfl rfl k)
    refine own_go (T' := T0) (f' := (mkF m 37 #[.val (.ref oa), .val (.ref ob), .val (.int cn), .val (.int (Int32.ofNat jn)), .val (.ref oa), .val (.int na), .val (.int xi), .val (.int xv)] [(.int (Int32.ofNat jn)), (.ref ob)])) ?_ (fun _ k => XS.iloadN X0.here hx rfl (hb hby own_d4_36) rfl  k)
    refine own_go (T' := T0) (f' := (mkF m 38 #[.val (.ref oa), .val (.ref ob), .val (.int cn), .val (.int (Int32.ofNat jn)), .val (.ref oa), .val (.int na), .val (.int xi), .val (.int xv)] [(.int (LB.getD ((Int32.ofNat jn)).toNatClampNeg 0))])) ?_ (own_ldI X0 hx hZ e0 A_ob (j := (Int32.ofNat jn)) (A_ob.inb ((A_ob.lt_iff hj).mp hc32_1)) (g := (mkF m 37 #[.val (.ref oa), .val (.ref ob), .val (.int cn), .val (.int (Int32.ofNat jn)), .val (.ref oa), .val (.int na), .val (.int xi), .val (.int xv)] [(.int (Int32.ofNat jn)), (.ref ob)])) rfl rfl (hb hby own_d4_37))
    refine own_go (T' := T0) (f' := (mkF m 40 #[.val (.ref oa), .val (.ref ob), .val (.int cn), .val (.int (Int32.ofNat jn)), .val (.ref oa), .val (.int na), .val (.int xi), .val (.int xv)] [(.int xv), (.int (LB.getD ((Int32.ofNat jn)).toNatClampNeg 0))])) ?_ (fun _ k => XS.iload X0.here hx rfl (hb hby own_d4_38) rfl  k)
    by_cases hc40_2 : xv < (LB.getD ((Int32.ofNat jn)).toNatClampNeg 0)
    · refine own_go (T' := T0) (f' := (mkF m 49 #[.val (.ref oa), .val (.ref ob), .val (.int cn), .val (.int (Int32.ofNat jn)), .val (.ref oa), .val (.int na), .val (.int xi), .val (.int xv)] [])) ?_ (fun _ k => XS.icmpYes X0.here hx rfl (pc0 := 40) (pc' := 49) rfl (hb hby own_d4_40) rfl (tlt hc40_2).2.2.1 (by decide) (by decide) k)
      have eq := own_skip_stop LB xv jn ((A_ob.lt_iff hj).mp hc32_1) (by rw [own_at_ofNat (by have := A_ob.len.2; omega)] at hc40_2; exact hc40_2)
      exact ⟨_, ⟨T0, _, (by rw [eq]), X0, e0, N0⟩, fun _ k => k⟩
    · refine own_go (T' := T0) (f' := (mkF m 43 #[.val (.ref oa), .val (.ref ob), .val (.int cn), .val (.int (Int32.ofNat jn)), .val (.ref oa), .val (.int na), .val (.int xi), .val (.int xv)] [])) ?_ (fun _ k => XS.icmpNo X0.here hx rfl (hb hby own_d4_40) rfl (flt hc40_2).2.2.1 k)
      refine own_go (T' := T0) (f' := (mkF m 46 #[.val (.ref oa), .val (.ref ob), .val (.int cn), .val (.int ((Int32.ofNat jn) + (1 : Int32))), .val (.ref oa), .val (.int na), .val (.int xi), .val (.int xv)] [])) ?_ (fun _ k => XS.iinc X0.here hx rfl (hb hby own_d4_43) rfl (l' := #[.val (.ref oa), .val (.ref ob), .val (.int cn), .val (.int ((Int32.ofNat jn) + (1 : Int32))), .val (.ref oa), .val (.int na), .val (.int xi), .val (.int xv)]) rfl k)
      refine own_go (T' := T0) (f' := (mkF m 29 #[.val (.ref oa), .val (.ref ob), .val (.int cn), .val (.int ((Int32.ofNat jn) + (1 : Int32))), .val (.ref oa), .val (.int na), .val (.int xi), .val (.int xv)] [])) ?_ (fun _ k => XS.goto X0.here hx rfl (pc0 := 46) (pc' := 29) rfl (hb hby own_d4_46) (by decide) (by decide) k)
      have hlt := (A_ob.lt_iff hj).mp hc32_1
      have eq := own_skip_on LB xv jn hlt (by rw [own_at_ofNat (by have := A_ob.len.2; omega)] at hc40_2; exact hc40_2)
      rw [eq, own_succ jn]
      exact ih _ (by omega) T0 _ cn (jn + 1) xi xv rfl (by omega) X0 e0 N0
  · refine own_go (T' := T0) (f' := (mkF m 49 #[.val (.ref oa), .val (.ref ob), .val (.int cn), .val (.int (Int32.ofNat jn)), .val (.ref oa), .val (.int na), .val (.int xi), .val (.int xv)] [])) ?_ (fun _ k => XS.icmpYes X0.here hx rfl (pc0 := 32) (pc' := 49) rfl (hb hby own_d4_32) rfl (flt hc32_1).2.1 (by decide) (by decide) k)
    have eq := own_skip_end LB xv jn (fun q => hc32_1 ((A_ob.lt_iff hj).mpr q))
    exact ⟨_, ⟨T0, _, (by rw [eq]), X0, e0, N0⟩, fun _ k => k⟩
theorem own_d4_15 : decode prog_27_method_2_code 15 = .ok (.iload 6, 2) := by decide +kernel
theorem own_d4_17 : decode prog_27_method_2_code 17 = .ok (.iload 5, 2) := by decide +kernel
theorem own_d4_19 : decode prog_27_method_2_code 19 = .ok (.if_icmp .ge 58, 3) := by decide +kernel
theorem own_d4_22 : decode prog_27_method_2_code 22 = .ok (.aload 4, 2) := by decide +kernel
theorem own_d4_24 : decode prog_27_method_2_code 24 = .ok (.iload 6, 2) := by decide +kernel
theorem own_d4_26 : decode prog_27_method_2_code 26 = .ok (.iaload, 1) := by decide +kernel
theorem own_d4_27 : decode prog_27_method_2_code 27 = .ok (.istore 7, 2) := by decide +kernel
theorem own_d4_49 : decode prog_27_method_2_code 49 = .ok (.iload_n 3, 1) := by decide +kernel
theorem own_d4_50 : decode prog_27_method_2_code 50 = .ok (.aload_n 1, 1) := by decide +kernel
theorem own_d4_51 : decode prog_27_method_2_code 51 = .ok (.arraylength, 1) := by decide +kernel
theorem own_d4_52 : decode prog_27_method_2_code 52 = .ok (.if_icmp .ne 6, 3) := by decide +kernel
theorem own_d4_55 : decode prog_27_method_2_code 55 = .ok (.goto 22, 3) := by decide +kernel
theorem own_d4_58 : decode prog_27_method_2_code 58 = .ok (.aload_n 1, 1) := by decide +kernel
theorem own_d4_59 : decode prog_27_method_2_code 59 = .ok (.iload_n 3, 1) := by decide +kernel
theorem own_d4_60 : decode prog_27_method_2_code 60 = .ok (.iaload, 1) := by decide +kernel
theorem own_d4_61 : decode prog_27_method_2_code 61 = .ok (.iload 7, 2) := by decide +kernel
theorem own_d4_63 : decode prog_27_method_2_code 63 = .ok (.iconst 1, 1) := by decide +kernel
theorem own_d4_64 : decode prog_27_method_2_code 64 = .ok (.iadd, 1) := by decide +kernel
theorem own_d4_65 : decode prog_27_method_2_code 65 = .ok (.if_icmp .ne 6, 3) := by decide +kernel
theorem own_d4_68 : decode prog_27_method_2_code 68 = .ok (.iinc 2 1, 3) := by decide +kernel
theorem own_d4_71 : decode prog_27_method_2_code 71 = .ok (.iinc 6 1, 3) := by decide +kernel
theorem own_d4_74 : decode prog_27_method_2_code 74 = .ok (.goto (-59), 3) := by decide +kernel
set_option maxRecDepth 65536 in
set_option maxHeartbeats 40000000 in
theorem own_loop4b (l : Launch) (Z : State) (a0 : Array Value) (hw : ∀ d ∈ tables_1, d.before a0 Z = true) (oa : Addr) (ob : Addr) (na : Int32) (LA : List Int32) (nb : Int32) (LB : List Int32) (h0 : Heap) (n0 : Nat) (Z0 : n0 ≤ h0.size) (A_oa : own_AI Z h0 oa .int na LA) (A_ob : own_AI Z h0 ob .int nb LB) {p : Program} {e : Env} {s : State} {m : MethodId} {below : List Frame} {meth : Method} {c : Code} (hx : p.tables.exec = Jvm.exec) (hZ : Z.Warmed39 s.vm) (hby : c.code = prog_27_method_2_code) (hml : c.maxLocals = 8) (hown : s.vm.findClass "com/example/term_proximity_ranking/termproximityranking/Windows" = some m.cls) :
    ∀ (km : Nat) (T0 : State) (locs : List Loc) (cn : Int32) (jn : Nat) (ii : Nat) (s7 : Slot), LA.length - ii = km → (jn ≤ LB.length) → (ii ≤ LA.length) → (s7 = .unset ∨ ∃ z : Int32, s7 = .val (.int z)) → Stand p l e own_roomO s m #[(.ref oa), (.ref ob)] below meth c T0 locs 0 0 → T0.heap = h0 → Fr n0 locs → own_Goes p.tables e below (fun uu => ∃ (T' : State) (L' : List Loc) (j' i' : Int32) (s' : Slot), uu = T'.setTop (mkF m 77 #[.val (.ref oa), .val (.ref ob), .val (.int (own_ord LA LB (LA.length - ii) ii jn cn)), .val (.int j'), .val (.ref oa), .val (.int na), .val (.int i'), s'] []) ∧ Stand p l e own_roomO s m #[(.ref oa), (.ref ob)] below meth c T' L' 0 0 ∧ T'.heap = h0 ∧ Fr n0 L') T0 (mkF m 15 #[.val (.ref oa), .val (.ref ob), .val (.int cn), .val (.int (Int32.ofNat jn)), .val (.ref oa), .val (.int na), .val (.int (Int32.ofNat ii)), s7] []) := by
  intro km
  induction km using Nat.strongRecOn with
  | _ km ih =>
  intro T0 locs cn jn ii s7 hkm hj hi hs7 X0 e0 N0
  refine own_go (T' := T0) (f' := (mkF m 17 #[.val (.ref oa), .val (.ref ob), .val (.int cn), .val (.int (Int32.ofNat jn)), .val (.ref oa), .val (.int na), .val (.int (Int32.ofNat ii)), s7] [(.int (Int32.ofNat ii))])) ?_ (fun _ k => XS.iload X0.here hx rfl (hb hby own_d4_15) rfl  k)
  refine own_go (T' := T0) (f' := (mkF m 19 #[.val (.ref oa), .val (.ref ob), .val (.int cn), .val (.int (Int32.ofNat jn)), .val (.ref oa), .val (.int na), .val (.int (Int32.ofNat ii)), s7] [(.int na), (.int (Int32.ofNat ii))])) ?_ (fun _ k => XS.iload X0.here hx rfl (hb hby own_d4_17) rfl  k)
  by_cases hc19_3 : (Int32.ofNat ii) < na
  · refine own_go (T' := T0) (f' := (mkF m 22 #[.val (.ref oa), .val (.ref ob), .val (.int cn), .val (.int (Int32.ofNat jn)), .val (.ref oa), .val (.int na), .val (.int (Int32.ofNat ii)), s7] [])) ?_ (fun _ k => XS.icmpNo X0.here hx rfl (hb hby own_d4_19) rfl (tlt hc19_3).2.1 k)
    refine own_go (T' := T0) (f' := (mkF m 24 #[.val (.ref oa), .val (.ref ob), .val (.int cn), .val (.int (Int32.ofNat jn)), .val (.ref oa), .val (.int na), .val (.int (Int32.ofNat ii)), s7] [(.ref oa)])) ?_ (fun _ k => XS.aload X0.here hx rfl (hb hby own_d4_22) rfl rfl k)
    refine own_go (T' := T0) (f' := (mkF m 26 #[.val (.ref oa), .val (.ref ob), .val (.int cn), .val (.int (Int32.ofNat jn)), .val (.ref oa), .val (.int na), .val (.int (Int32.ofNat ii)), s7] [(.int (Int32.ofNat ii)), (.ref oa)])) ?_ (fun _ k => XS.iload X0.here hx rfl (hb hby own_d4_24) rfl  k)
    refine own_go (T' := T0) (f' := (mkF m 27 #[.val (.ref oa), .val (.ref ob), .val (.int cn), .val (.int (Int32.ofNat jn)), .val (.ref oa), .val (.int na), .val (.int (Int32.ofNat ii)), s7] [(.int (LA.getD ((Int32.ofNat ii)).toNatClampNeg 0))])) ?_ (own_ldI X0 hx hZ e0 A_oa (j := (Int32.ofNat ii)) (A_oa.inb ((A_oa.lt_iff hi).mp hc19_3)) (g := (mkF m 26 #[.val (.ref oa), .val (.ref ob), .val (.int cn), .val (.int (Int32.ofNat jn)), .val (.ref oa), .val (.int na), .val (.int (Int32.ofNat ii)), s7] [(.int (Int32.ofNat ii)), (.ref oa)])) rfl rfl (hb hby own_d4_26))
    refine own_go (T' := T0) (f' := (mkF m 29 #[.val (.ref oa), .val (.ref ob), .val (.int cn), .val (.int (Int32.ofNat jn)), .val (.ref oa), .val (.int na), .val (.int (Int32.ofNat ii)), .val (.int (LA.getD ((Int32.ofNat ii)).toNatClampNeg 0))] [])) ?_ (fun _ k => XS.istore X0.here hx rfl (hb hby own_d4_27) rfl (l' := #[.val (.ref oa), .val (.ref ob), .val (.int cn), .val (.int (Int32.ofNat jn)), .val (.ref oa), .val (.int na), .val (.int (Int32.ofNat ii)), .val (.int (LA.getD ((Int32.ofNat ii)).toNatClampNeg 0))]) (by rcases hs7 with rfl | ⟨_, rfl⟩ <;> rfl) k)
    obtain ⟨_, ⟨T4, L4, rfl, X4, e4, N4⟩, mg4⟩ := own_loop4a l Z a0 hw oa ob na LA nb LB h0 n0 Z0 A_oa A_ob hx hZ hby hml hown _ T0 _ cn jn (Int32.ofNat ii) (LA.getD ((Int32.ofNat ii)).toNatClampNeg 0) rfl hj X0 e0 N0
    refine own_go (T' := T4) (f' := (mkF m 49 #[.val (.ref oa), .val (.ref ob), .val (.int cn), .val (.int (Int32.ofNat (own_skip LB (LA.getD ((Int32.ofNat ii)).toNatClampNeg 0) (LB.length - jn) jn))), .val (.ref oa), .val (.int na), .val (.int (Int32.ofNat ii)), .val (.int (LA.getD ((Int32.ofNat ii)).toNatClampNeg 0))] [])) ?_ (mg4)
    refine own_go (T' := T4) (f' := (mkF m 50 #[.val (.ref oa), .val (.ref ob), .val (.int cn), .val (.int (Int32.ofNat (own_skip LB (LA.getD ((Int32.ofNat ii)).toNatClampNeg 0) (LB.length - jn) jn))), .val (.ref oa), .val (.int na), .val (.int (Int32.ofNat ii)), .val (.int (LA.getD ((Int32.ofNat ii)).toNatClampNeg 0))] [(.int (Int32.ofNat (own_skip LB (LA.getD ((Int32.ofNat ii)).toNatClampNeg 0) (LB.length - jn) jn)))])) ?_ (fun _ k => XS.iloadN X4.here hx rfl (hb hby own_d4_49) rfl  k)
    refine own_go (T' := T4) (f' := (mkF m 51 #[.val (.ref oa), .val (.ref ob), .val (.int cn), .val (.int (Int32.ofNat (own_skip LB (LA.getD ((Int32.ofNat ii)).toNatClampNeg 0) (LB.length - jn) jn))), .val (.ref oa), .val (.int na), .val (.int (Int32.ofNat ii)), .val (.int (LA.getD ((Int32.ofNat ii)).toNatClampNeg 0))] [(.ref ob), (.int (Int32.ofNat (own_skip LB (LA.getD ((Int32.ofNat ii)).toNatClampNeg 0) (LB.length - jn) jn)))])) ?_ (fun _ k => XS.aloadN X4.here hx rfl (hb hby own_d4_50) rfl rfl k)
    refine own_go (T' := T4) (f' := (mkF m 52 #[.val (.ref oa), .val (.ref ob), .val (.int cn), .val (.int (Int32.ofNat (own_skip LB (LA.getD ((Int32.ofNat ii)).toNatClampNeg 0) (LB.length - jn) jn))), .val (.ref oa), .val (.int na), .val (.int (Int32.ofNat ii)), .val (.int (LA.getD ((Int32.ofNat ii)).toNatClampNeg 0))] [(.int nb), (.int (Int32.ofNat (own_skip LB (LA.getD ((Int32.ofNat ii)).toNatClampNeg 0) (LB.length - jn) jn)))])) ?_ (own_len X4 hx hZ e4 A_ob (g := (mkF m 51 #[.val (.ref oa), .val (.ref ob), .val (.int cn), .val (.int (Int32.ofNat (own_skip LB (LA.getD ((Int32.ofNat ii)).toNatClampNeg 0) (LB.length - jn) jn))), .val (.ref oa), .val (.int na), .val (.int (Int32.ofNat ii)), .val (.int (LA.getD ((Int32.ofNat ii)).toNatClampNeg 0))] [(.ref ob), (.int (Int32.ofNat (own_skip LB (LA.getD ((Int32.ofNat ii)).toNatClampNeg 0) (LB.length - jn) jn)))])) rfl rfl (hb hby own_d4_51))
    by_cases hc52_5 : (Int32.ofNat (own_skip LB (LA.getD ((Int32.ofNat ii)).toNatClampNeg 0) (LB.length - jn) jn)) = nb
    · refine own_go (T' := T4) (f' := (mkF m 55 #[.val (.ref oa), .val (.ref ob), .val (.int cn), .val (.int (Int32.ofNat (own_skip LB (LA.getD ((Int32.ofNat ii)).toNatClampNeg 0) (LB.length - jn) jn))), .val (.ref oa), .val (.int na), .val (.int (Int32.ofNat ii)), .val (.int (LA.getD ((Int32.ofNat ii)).toNatClampNeg 0))] [])) ?_ (fun _ k => XS.icmpNo X4.here hx rfl (hb hby own_d4_52) rfl (teq hc52_5).2 k)
      refine own_go (T' := T4) (f' := (mkF m 77 #[.val (.ref oa), .val (.ref ob), .val (.int cn), .val (.int (Int32.ofNat (own_skip LB (LA.getD ((Int32.ofNat ii)).toNatClampNeg 0) (LB.length - jn) jn))), .val (.ref oa), .val (.int na), .val (.int (Int32.ofNat ii)), .val (.int (LA.getD ((Int32.ofNat ii)).toNatClampNeg 0))] [])) ?_ (fun _ k => XS.goto X4.here hx rfl (pc0 := 55) (pc' := 77) rfl (hb hby own_d4_55) (by decide) (by decide) k)
      have hlt := (A_oa.lt_iff hi).mp hc19_3
      have hq := (A_ob.eq_iff (own_skip_le LB (LA.getD ((Int32.ofNat ii)).toNatClampNeg 0) (LB.length - jn) jn hj)).mp hc52_5
      rw [own_at_ofNat (by have := A_oa.len.2; omega)] at hq
      have eq : own_ord LA LB (LA.length - ii) ii jn cn = cn := by rw [show LA.length - ii = (LA.length - (ii + 1)) + 1 by omega]; exact if_pos hq
      rw [eq]
      exact ⟨_, ⟨T4, _, _, _, _, rfl, X4, e4, N4⟩, fun _ k => k⟩
    · refine own_go (T' := T4) (f' := (mkF m 58 #[.val (.ref oa), .val (.ref ob), .val (.int cn), .val (.int (Int32.ofNat (own_skip LB (LA.getD ((Int32.ofNat ii)).toNatClampNeg 0) (LB.length - jn) jn))), .val (.ref oa), .val (.int na), .val (.int (Int32.ofNat ii)), .val (.int (LA.getD ((Int32.ofNat ii)).toNatClampNeg 0))] [])) ?_ (fun _ k => XS.icmpYes X4.here hx rfl (pc0 := 52) (pc' := 58) rfl (hb hby own_d4_52) rfl (feq hc52_5).2 (by decide) (by decide) k)
      refine own_go (T' := T4) (f' := (mkF m 59 #[.val (.ref oa), .val (.ref ob), .val (.int cn), .val (.int (Int32.ofNat (own_skip LB (LA.getD ((Int32.ofNat ii)).toNatClampNeg 0) (LB.length - jn) jn))), .val (.ref oa), .val (.int na), .val (.int (Int32.ofNat ii)), .val (.int (LA.getD ((Int32.ofNat ii)).toNatClampNeg 0))] [(.ref ob)])) ?_ (fun _ k => XS.aloadN X4.here hx rfl (hb hby own_d4_58) rfl rfl k)
      refine own_go (T' := T4) (f' := (mkF m 60 #[.val (.ref oa), .val (.ref ob), .val (.int cn), .val (.int (Int32.ofNat (own_skip LB (LA.getD ((Int32.ofNat ii)).toNatClampNeg 0) (LB.length - jn) jn))), .val (.ref oa), .val (.int na), .val (.int (Int32.ofNat ii)), .val (.int (LA.getD ((Int32.ofNat ii)).toNatClampNeg 0))] [(.int (Int32.ofNat (own_skip LB (LA.getD ((Int32.ofNat ii)).toNatClampNeg 0) (LB.length - jn) jn))), (.ref ob)])) ?_ (fun _ k => XS.iloadN X4.here hx rfl (hb hby own_d4_59) rfl  k)
      refine own_go (T' := T4) (f' := (mkF m 61 #[.val (.ref oa), .val (.ref ob), .val (.int cn), .val (.int (Int32.ofNat (own_skip LB (LA.getD ((Int32.ofNat ii)).toNatClampNeg 0) (LB.length - jn) jn))), .val (.ref oa), .val (.int na), .val (.int (Int32.ofNat ii)), .val (.int (LA.getD ((Int32.ofNat ii)).toNatClampNeg 0))] [(.int (LB.getD ((Int32.ofNat (own_skip LB (LA.getD ((Int32.ofNat ii)).toNatClampNeg 0) (LB.length - jn) jn))).toNatClampNeg 0))])) ?_ (own_ldI X4 hx hZ e4 A_ob (j := (Int32.ofNat (own_skip LB (LA.getD ((Int32.ofNat ii)).toNatClampNeg 0) (LB.length - jn) jn))) (A_ob.inb (by have := own_skip_le LB (LA.getD ((Int32.ofNat ii)).toNatClampNeg 0) (LB.length - jn) jn hj; have := mt (A_ob.eq_iff (own_skip_le LB (LA.getD ((Int32.ofNat ii)).toNatClampNeg 0) (LB.length - jn) jn hj)).mpr hc52_5; omega)) (g := (mkF m 60 #[.val (.ref oa), .val (.ref ob), .val (.int cn), .val (.int (Int32.ofNat (own_skip LB (LA.getD ((Int32.ofNat ii)).toNatClampNeg 0) (LB.length - jn) jn))), .val (.ref oa), .val (.int na), .val (.int (Int32.ofNat ii)), .val (.int (LA.getD ((Int32.ofNat ii)).toNatClampNeg 0))] [(.int (Int32.ofNat (own_skip LB (LA.getD ((Int32.ofNat ii)).toNatClampNeg 0) (LB.length - jn) jn))), (.ref ob)])) rfl rfl (hb hby own_d4_60))
      refine own_go (T' := T4) (f' := (mkF m 63 #[.val (.ref oa), .val (.ref ob), .val (.int cn), .val (.int (Int32.ofNat (own_skip LB (LA.getD ((Int32.ofNat ii)).toNatClampNeg 0) (LB.length - jn) jn))), .val (.ref oa), .val (.int na), .val (.int (Int32.ofNat ii)), .val (.int (LA.getD ((Int32.ofNat ii)).toNatClampNeg 0))] [(.int (LA.getD ((Int32.ofNat ii)).toNatClampNeg 0)), (.int (LB.getD ((Int32.ofNat (own_skip LB (LA.getD ((Int32.ofNat ii)).toNatClampNeg 0) (LB.length - jn) jn))).toNatClampNeg 0))])) ?_ (fun _ k => XS.iload X4.here hx rfl (hb hby own_d4_61) rfl  k)
      refine own_go (T' := T4) (f' := (mkF m 64 #[.val (.ref oa), .val (.ref ob), .val (.int cn), .val (.int (Int32.ofNat (own_skip LB (LA.getD ((Int32.ofNat ii)).toNatClampNeg 0) (LB.length - jn) jn))), .val (.ref oa), .val (.int na), .val (.int (Int32.ofNat ii)), .val (.int (LA.getD ((Int32.ofNat ii)).toNatClampNeg 0))] [(.int (1 : Int32)), (.int (LA.getD ((Int32.ofNat ii)).toNatClampNeg 0)), (.int (LB.getD ((Int32.ofNat (own_skip LB (LA.getD ((Int32.ofNat ii)).toNatClampNeg 0) (LB.length - jn) jn))).toNatClampNeg 0))])) ?_ (fun _ k => XS.iconst X4.here hx rfl (hb hby own_d4_63) k)
      refine own_go (T' := T4) (f' := (mkF m 65 #[.val (.ref oa), .val (.ref ob), .val (.int cn), .val (.int (Int32.ofNat (own_skip LB (LA.getD ((Int32.ofNat ii)).toNatClampNeg 0) (LB.length - jn) jn))), .val (.ref oa), .val (.int na), .val (.int (Int32.ofNat ii)), .val (.int (LA.getD ((Int32.ofNat ii)).toNatClampNeg 0))] [(.int ((LA.getD ((Int32.ofNat ii)).toNatClampNeg 0) + (1 : Int32))), (.int (LB.getD ((Int32.ofNat (own_skip LB (LA.getD ((Int32.ofNat ii)).toNatClampNeg 0) (LB.length - jn) jn))).toNatClampNeg 0))])) ?_ (fun _ k => XS.iadd X4.here hx rfl (hb hby own_d4_64) rfl k)
      obtain ⟨_, ⟨T6, L6, rfl, X6, e6, N6⟩, mg6⟩ : own_Goes p.tables e below (fun uu => ∃ (T' : State) (L' : List Loc), uu = T'.setTop (mkF m 71 #[.val (.ref oa), .val (.ref ob), .val (.int (if (LB.getD ((Int32.ofNat (own_skip LB (LA.getD ((Int32.ofNat ii)).toNatClampNeg 0) (LB.length - jn) jn))).toNatClampNeg 0) = ((LA.getD ((Int32.ofNat ii)).toNatClampNeg 0) + (1 : Int32)) then (cn + (1 : Int32)) else cn)), .val (.int (Int32.ofNat (own_skip LB (LA.getD ((Int32.ofNat ii)).toNatClampNeg 0) (LB.length - jn) jn))), .val (.ref oa), .val (.int na), .val (.int (Int32.ofNat ii)), .val (.int (LA.getD ((Int32.ofNat ii)).toNatClampNeg 0))] []) ∧ Stand p l e own_roomO s m #[(.ref oa), (.ref ob)] below meth c T' L' 0 0 ∧ T'.heap = h0 ∧ Fr n0 L') T4 (mkF m 65 #[.val (.ref oa), .val (.ref ob), .val (.int cn), .val (.int (Int32.ofNat (own_skip LB (LA.getD ((Int32.ofNat ii)).toNatClampNeg 0) (LB.length - jn) jn))), .val (.ref oa), .val (.int na), .val (.int (Int32.ofNat ii)), .val (.int (LA.getD ((Int32.ofNat ii)).toNatClampNeg 0))] [(.int ((LA.getD ((Int32.ofNat ii)).toNatClampNeg 0) + (1 : Int32))), (.int (LB.getD ((Int32.ofNat (own_skip LB (LA.getD ((Int32.ofNat ii)).toNatClampNeg 0) (LB.length - jn) jn))).toNatClampNeg 0))]) := by
        by_cases hc65_7 : (LB.getD ((Int32.ofNat (own_skip LB (LA.getD ((Int32.ofNat ii)).toNatClampNeg 0) (LB.length - jn) jn))).toNatClampNeg 0) = ((LA.getD ((Int32.ofNat ii)).toNatClampNeg 0) + (1 : Int32))
        · refine own_go (T' := T4) (f' := (mkF m 68 #[.val (.ref oa), .val (.ref ob), .val (.int cn), .val (.int (Int32.ofNat (own_skip LB (LA.getD ((Int32.ofNat ii)).toNatClampNeg 0) (LB.length - jn) jn))), .val (.ref oa), .val (.int na), .val (.int (Int32.ofNat ii)), .val (.int (LA.getD ((Int32.ofNat ii)).toNatClampNeg 0))] [])) ?_ (fun _ k => XS.icmpNo X4.here hx rfl (hb hby own_d4_65) rfl (teq hc65_7).2 k)
          refine own_go (T' := T4) (f' := (mkF m 71 #[.val (.ref oa), .val (.ref ob), .val (.int (cn + (1 : Int32))), .val (.int (Int32.ofNat (own_skip LB (LA.getD ((Int32.ofNat ii)).toNatClampNeg 0) (LB.length - jn) jn))), .val (.ref oa), .val (.int na), .val (.int (Int32.ofNat ii)), .val (.int (LA.getD ((Int32.ofNat ii)).toNatClampNeg 0))] [])) ?_ (fun _ k => XS.iinc X4.here hx rfl (hb hby own_d4_68) rfl (l' := #[.val (.ref oa), .val (.ref ob), .val (.int (cn + (1 : Int32))), .val (.int (Int32.ofNat (own_skip LB (LA.getD ((Int32.ofNat ii)).toNatClampNeg 0) (LB.length - jn) jn))), .val (.ref oa), .val (.int na), .val (.int (Int32.ofNat ii)), .val (.int (LA.getD ((Int32.ofNat ii)).toNatClampNeg 0))]) rfl k)
          have em8 : (if (LB.getD ((Int32.ofNat (own_skip LB (LA.getD ((Int32.ofNat ii)).toNatClampNeg 0) (LB.length - jn) jn))).toNatClampNeg 0) = ((LA.getD ((Int32.ofNat ii)).toNatClampNeg 0) + (1 : Int32)) then (cn + (1 : Int32)) else cn) = (cn + (1 : Int32)) := (if_pos hc65_7)
          exact ⟨_, ⟨T4, _, (by rw [em8]), X4, e4, N4⟩, fun _ k => k⟩
        · refine own_go (T' := T4) (f' := (mkF m 71 #[.val (.ref oa), .val (.ref ob), .val (.int cn), .val (.int (Int32.ofNat (own_skip LB (LA.getD ((Int32.ofNat ii)).toNatClampNeg 0) (LB.length - jn) jn))), .val (.ref oa), .val (.int na), .val (.int (Int32.ofNat ii)), .val (.int (LA.getD ((Int32.ofNat ii)).toNatClampNeg 0))] [])) ?_ (fun _ k => XS.icmpYes X4.here hx rfl (pc0 := 65) (pc' := 71) rfl (hb hby own_d4_65) rfl (feq hc65_7).2 (by decide) (by decide) k)
          have em9 : (if (LB.getD ((Int32.ofNat (own_skip LB (LA.getD ((Int32.ofNat ii)).toNatClampNeg 0) (LB.length - jn) jn))).toNatClampNeg 0) = ((LA.getD ((Int32.ofNat ii)).toNatClampNeg 0) + (1 : Int32)) then (cn + (1 : Int32)) else cn) = cn := (if_neg hc65_7)
          exact ⟨_, ⟨T4, _, (by rw [em9]), X4, e4, N4⟩, fun _ k => k⟩
      refine own_go (T' := T6) (f' := (mkF m 71 #[.val (.ref oa), .val (.ref ob), .val (.int (if (LB.getD ((Int32.ofNat (own_skip LB (LA.getD ((Int32.ofNat ii)).toNatClampNeg 0) (LB.length - jn) jn))).toNatClampNeg 0) = ((LA.getD ((Int32.ofNat ii)).toNatClampNeg 0) + (1 : Int32)) then (cn + (1 : Int32)) else cn)), .val (.int (Int32.ofNat (own_skip LB (LA.getD ((Int32.ofNat ii)).toNatClampNeg 0) (LB.length - jn) jn))), .val (.ref oa), .val (.int na), .val (.int (Int32.ofNat ii)), .val (.int (LA.getD ((Int32.ofNat ii)).toNatClampNeg 0))] [])) ?_ (mg6)
      refine own_go (T' := T6) (f' := (mkF m 74 #[.val (.ref oa), .val (.ref ob), .val (.int (if (LB.getD ((Int32.ofNat (own_skip LB (LA.getD ((Int32.ofNat ii)).toNatClampNeg 0) (LB.length - jn) jn))).toNatClampNeg 0) = ((LA.getD ((Int32.ofNat ii)).toNatClampNeg 0) + (1 : Int32)) then (cn + (1 : Int32)) else cn)), .val (.int (Int32.ofNat (own_skip LB (LA.getD ((Int32.ofNat ii)).toNatClampNeg 0) (LB.length - jn) jn))), .val (.ref oa), .val (.int na), .val (.int ((Int32.ofNat ii) + (1 : Int32))), .val (.int (LA.getD ((Int32.ofNat ii)).toNatClampNeg 0))] [])) ?_ (fun _ k => XS.iinc X6.here hx rfl (hb hby own_d4_71) rfl (l' := #[.val (.ref oa), .val (.ref ob), .val (.int (if (LB.getD ((Int32.ofNat (own_skip LB (LA.getD ((Int32.ofNat ii)).toNatClampNeg 0) (LB.length - jn) jn))).toNatClampNeg 0) = ((LA.getD ((Int32.ofNat ii)).toNatClampNeg 0) + (1 : Int32)) then (cn + (1 : Int32)) else cn)), .val (.int (Int32.ofNat (own_skip LB (LA.getD ((Int32.ofNat ii)).toNatClampNeg 0) (LB.length - jn) jn))), .val (.ref oa), .val (.int na), .val (.int ((Int32.ofNat ii) + (1 : Int32))), .val (.int (LA.getD ((Int32.ofNat ii)).toNatClampNeg 0))]) rfl k)
      refine own_go (T' := T6) (f' := (mkF m 15 #[.val (.ref oa), .val (.ref ob), .val (.int (if (LB.getD ((Int32.ofNat (own_skip LB (LA.getD ((Int32.ofNat ii)).toNatClampNeg 0) (LB.length - jn) jn))).toNatClampNeg 0) = ((LA.getD ((Int32.ofNat ii)).toNatClampNeg 0) + (1 : Int32)) then (cn + (1 : Int32)) else cn)), .val (.int (Int32.ofNat (own_skip LB (LA.getD ((Int32.ofNat ii)).toNatClampNeg 0) (LB.length - jn) jn))), .val (.ref oa), .val (.int na), .val (.int ((Int32.ofNat ii) + (1 : Int32))), .val (.int (LA.getD ((Int32.ofNat ii)).toNatClampNeg 0))] [])) ?_ (fun _ k => XS.goto X6.here hx rfl (pc0 := 74) (pc' := 15) rfl (hb hby own_d4_74) (by decide) (by decide) k)
      have hlt := (A_oa.lt_iff hi).mp hc19_3
      have ei : (Int32.ofNat ii).toNatClampNeg = ii := own_at_ofNat (by have := A_oa.len.2; omega)
      have hq := mt (A_ob.eq_iff (own_skip_le LB (LA.getD ((Int32.ofNat ii)).toNatClampNeg 0) (LB.length - jn) jn hj)).mpr hc52_5
      have ej : (Int32.ofNat (own_skip LB (LA.getD ((Int32.ofNat ii)).toNatClampNeg 0) (LB.length - jn) jn)).toNatClampNeg = (own_skip LB (LA.getD ((Int32.ofNat ii)).toNatClampNeg 0) (LB.length - jn) jn) := own_at_ofNat (by have := A_ob.len.2; have := own_skip_le LB (LA.getD ((Int32.ofNat ii)).toNatClampNeg 0) (LB.length - jn) jn hj; omega)
      have q := ih (LA.length - (ii + 1)) (by omega) T6 _ (if (LB.getD ((Int32.ofNat (own_skip LB (LA.getD ((Int32.ofNat ii)).toNatClampNeg 0) (LB.length - jn) jn))).toNatClampNeg 0) = ((LA.getD ((Int32.ofNat ii)).toNatClampNeg 0) + (1 : Int32)) then (cn + (1 : Int32)) else cn) (own_skip LB (LA.getD ((Int32.ofNat ii)).toNatClampNeg 0) (LB.length - jn) jn) (ii + 1) (.val (.int (LA.getD ((Int32.ofNat ii)).toNatClampNeg 0))) rfl (own_skip_le LB (LA.getD ((Int32.ofNat ii)).toNatClampNeg 0) (LB.length - jn) jn hj) (by omega) (Or.inr ⟨_, rfl⟩) X6 e6 N6
      rw [ej, ei] at q; rw [ei] at hq
      rw [own_succ ii, show LA.length - ii = (LA.length - (ii + 1)) + 1 by omega, show own_ord LA LB ((LA.length - (ii + 1)) + 1) ii jn cn = _ from if_neg hq, ej, ei]
      exact q
  · refine own_go (T' := T0) (f' := (mkF m 77 #[.val (.ref oa), .val (.ref ob), .val (.int cn), .val (.int (Int32.ofNat jn)), .val (.ref oa), .val (.int na), .val (.int (Int32.ofNat ii)), s7] [])) ?_ (fun _ k => XS.icmpYes X0.here hx rfl (pc0 := 19) (pc' := 77) rfl (hb hby own_d4_19) rfl (flt hc19_3).2.1 (by decide) (by decide) k)
    have eq : LA.length - ii = 0 := by have := mt (A_oa.lt_iff hi).mpr hc19_3; omega
    rw [eq]
    exact ⟨_, ⟨T0, _, _, _, _, rfl, X0, e0, N0⟩, fun _ k => k⟩
theorem own_pn1 : plainName "com/example/term_proximity_ranking/termproximityranking/Windows" = true := by first | (simp [plainName, overriddenIn]; done) | decide +kernel
theorem own_d4_0 : decode prog_27_method_2_code 0 = .ok (.iconst 0, 1) := by decide +kernel
theorem own_d4_1 : decode prog_27_method_2_code 1 = .ok (.istore_n 2, 1) := by decide +kernel
theorem own_d4_2 : decode prog_27_method_2_code 2 = .ok (.iconst 0, 1) := by decide +kernel
theorem own_d4_3 : decode prog_27_method_2_code 3 = .ok (.istore_n 3, 1) := by decide +kernel
theorem own_d4_4 : decode prog_27_method_2_code 4 = .ok (.aload_n 0, 1) := by decide +kernel
theorem own_d4_5 : decode prog_27_method_2_code 5 = .ok (.astore 4, 2) := by decide +kernel
theorem own_d4_7 : decode prog_27_method_2_code 7 = .ok (.aload 4, 2) := by decide +kernel
theorem own_d4_9 : decode prog_27_method_2_code 9 = .ok (.arraylength, 1) := by decide +kernel
theorem own_d4_10 : decode prog_27_method_2_code 10 = .ok (.istore 5, 2) := by decide +kernel
theorem own_d4_12 : decode prog_27_method_2_code 12 = .ok (.iconst 0, 1) := by decide +kernel
theorem own_d4_13 : decode prog_27_method_2_code 13 = .ok (.istore 6, 2) := by decide +kernel
theorem own_d4_77 : decode prog_27_method_2_code 77 = .ok (.iload_n 2, 1) := by decide +kernel
theorem own_d4_78 : decode prog_27_method_2_code 78 = .ok (.ireturn, 1) := by decide +kernel
theorem own_ef4 (m : MethodId) (oa : Addr) (ob : Addr) : entryFrame m #[(.ref oa), (.ref ob)] 8 = mkF m 0 #[.val (.ref oa), .val (.ref ob), .unset, .unset, .unset, .unset, .unset, .unset] [] := by first | (simp [entryFrame, mkF, argsToLocals, Value.category]; done) | rfl
abbrev own_room4 : Room := { frames := 0, cells := 0, slots := 0, locals := 0 }
def own_Q4 (Z : State) (oa : Addr) (ob : Addr) (na : Int32) (LA : List Int32) (nb : Int32) (LB : List Int32) (h0 : Heap) (n0 : Nat) (v : Option Value) (h : Heap) (L : List Loc) : Prop := v = some (.int (own_ord LA LB LA.length 0 0 (0 : Int32))) ∧ Fr n0 L ∧ h = h0
set_option maxRecDepth 65536 in
set_option maxHeartbeats 40000000 in
theorem own_rm4 (l : Launch) (Z : State) (a0 : Array Value) (hw : ∀ d ∈ tables_1, d.before a0 Z = true) (ws : List Jvm.Cond) (oa : Addr) (ob : Addr) (na : Int32) (LA : List Int32) (nb : Int32) (LB : List Int32) (h0 : Heap) (n0 : Nat) (Z0 : n0 ≤ h0.size) (A_oa : own_AI Z h0 oa .int na LA) (A_ob : own_AI Z h0 ob .int nb LB) :
    MetFree l (⟨"com/example/term_proximity_ranking/termproximityranking/Windows", "ordered", "([I[I)I"⟩ : MethodName) (head1 (Jvm.Cond.code (⟨"com/example/term_proximity_ranking/termproximityranking/Windows", "ordered", "([I[I)I"⟩ : MethodName) prog_27_method_2_code 8 (some .int) :: ws) own_room4) (fun a U => a = #[(.ref oa), (.ref ob)] ∧ Z.Warmed39 U.vm ∧ U.heap = h0) (fun _ _ _ _ _ => True) (fun _ U o U' => ∃ v L, o = .returned v ∧ own_Q4 Z oa ob na LA nb LB h0 n0 v U'.heap L ∧ FrameEnd U o U' L own_room4.cells own_room4.slots) := by
  refine MetFree.of_bodySF (plainFor_of_name own_pn1) hisR ?_
  intro p e s m args below meth c s₁ Bd hml0 hP hK
  obtain ⟨rfl, hZ, hh⟩ := hP
  have hx := Bd.exec
  have hby := Bd.bytes
  have hml : c.maxLocals = 8 := hml0
  have hown : s.vm.findClass "com/example/term_proximity_ranking/termproximityranking/Windows" = some m.cls := findClass_of_methodNamed Bd.named
  have hnm := (name_of_methodNamed Bd.named Bd.method).1
  have X0 : Stand p l e own_room4 s m #[(.ref oa), (.ref ob)] below meth c s₁ [] 0 0 := Stand.of_body Bd
  have e0 : s₁.heap = h0 := by rw [← hh, Bd.state]; rfl
  have N0 := Fr.nil n0
  refine own_out (Q := fun o U' => ∃ v L, o = .returned v ∧ own_Q4 Z oa ob na LA nb LB h0 n0 v U'.heap L ∧ FrameEnd s o U' L own_room4.cells own_room4.slots) ?_
  refine own_go (T' := s₁) (f' := (mkF m 0 #[.val (.ref oa), .val (.ref ob), .unset, .unset, .unset, .unset, .unset, .unset] [])) ?_ (fun _ k => castTop (own_ef4 m oa ob) k)
  refine own_go (T' := s₁) (f' := (mkF m 1 #[.val (.ref oa), .val (.ref ob), .unset, .unset, .unset, .unset, .unset, .unset] [(.int (0 : Int32))])) ?_ (fun _ k => XS.iconst X0.here hx rfl (hb hby own_d4_0) k)
  refine own_go (T' := s₁) (f' := (mkF m 2 #[.val (.ref oa), .val (.ref ob), .val (.int (0 : Int32)), .unset, .unset, .unset, .unset, .unset] [])) ?_ (fun _ k => XS.istoreN X0.here hx rfl (hb hby own_d4_1) rfl (l' := #[.val (.ref oa), .val (.ref ob), .val (.int (0 : Int32)), .unset, .unset, .unset, .unset, .unset]) rfl k)
  refine own_go (T' := s₁) (f' := (mkF m 3 #[.val (.ref oa), .val (.ref ob), .val (.int (0 : Int32)), .unset, .unset, .unset, .unset, .unset] [(.int (0 : Int32))])) ?_ (fun _ k => XS.iconst X0.here hx rfl (hb hby own_d4_2) k)
  refine own_go (T' := s₁) (f' := (mkF m 4 #[.val (.ref oa), .val (.ref ob), .val (.int (0 : Int32)), .val (.int (0 : Int32)), .unset, .unset, .unset, .unset] [])) ?_ (fun _ k => XS.istoreN X0.here hx rfl (hb hby own_d4_3) rfl (l' := #[.val (.ref oa), .val (.ref ob), .val (.int (0 : Int32)), .val (.int (0 : Int32)), .unset, .unset, .unset, .unset]) rfl k)
  refine own_go (T' := s₁) (f' := (mkF m 5 #[.val (.ref oa), .val (.ref ob), .val (.int (0 : Int32)), .val (.int (0 : Int32)), .unset, .unset, .unset, .unset] [(.ref oa)])) ?_ (fun _ k => XS.aloadN X0.here hx rfl (hb hby own_d4_4) rfl rfl k)
  refine own_go (T' := s₁) (f' := (mkF m 7 #[.val (.ref oa), .val (.ref ob), .val (.int (0 : Int32)), .val (.int (0 : Int32)), .val (.ref oa), .unset, .unset, .unset] [])) ?_ (fun _ k => XS.astore X0.here hx rfl (hb hby own_d4_5) rfl rfl (l' := #[.val (.ref oa), .val (.ref ob), .val (.int (0 : Int32)), .val (.int (0 : Int32)), .val (.ref oa), .unset, .unset, .unset]) rfl k)
  refine own_go (T' := s₁) (f' := (mkF m 9 #[.val (.ref oa), .val (.ref ob), .val (.int (0 : Int32)), .val (.int (0 : Int32)), .val (.ref oa), .unset, .unset, .unset] [(.ref oa)])) ?_ (fun _ k => XS.aload X0.here hx rfl (hb hby own_d4_7) rfl rfl k)
  refine own_go (T' := s₁) (f' := (mkF m 10 #[.val (.ref oa), .val (.ref ob), .val (.int (0 : Int32)), .val (.int (0 : Int32)), .val (.ref oa), .unset, .unset, .unset] [(.int na)])) ?_ (own_len X0 hx hZ e0 A_oa (g := (mkF m 9 #[.val (.ref oa), .val (.ref ob), .val (.int (0 : Int32)), .val (.int (0 : Int32)), .val (.ref oa), .unset, .unset, .unset] [(.ref oa)])) rfl rfl (hb hby own_d4_9))
  refine own_go (T' := s₁) (f' := (mkF m 12 #[.val (.ref oa), .val (.ref ob), .val (.int (0 : Int32)), .val (.int (0 : Int32)), .val (.ref oa), .val (.int na), .unset, .unset] [])) ?_ (fun _ k => XS.istore X0.here hx rfl (hb hby own_d4_10) rfl (l' := #[.val (.ref oa), .val (.ref ob), .val (.int (0 : Int32)), .val (.int (0 : Int32)), .val (.ref oa), .val (.int na), .unset, .unset]) rfl k)
  refine own_go (T' := s₁) (f' := (mkF m 13 #[.val (.ref oa), .val (.ref ob), .val (.int (0 : Int32)), .val (.int (0 : Int32)), .val (.ref oa), .val (.int na), .unset, .unset] [(.int (0 : Int32))])) ?_ (fun _ k => XS.iconst X0.here hx rfl (hb hby own_d4_12) k)
  refine own_go (T' := s₁) (f' := (mkF m 15 #[.val (.ref oa), .val (.ref ob), .val (.int (0 : Int32)), .val (.int (0 : Int32)), .val (.ref oa), .val (.int na), .val (.int (0 : Int32)), .unset] [])) ?_ (fun _ k => XS.istore X0.here hx rfl (hb hby own_d4_13) rfl (l' := #[.val (.ref oa), .val (.ref ob), .val (.int (0 : Int32)), .val (.int (0 : Int32)), .val (.ref oa), .val (.int na), .val (.int (0 : Int32)), .unset]) rfl k)
  obtain ⟨_, ⟨T10, L10, j10, i10, s10, rfl, X10, e10, N10⟩, mg10⟩ := own_loop4b l Z a0 hw oa ob na LA nb LB h0 n0 Z0 A_oa A_ob hx hZ hby hml hown _ s₁ _ (0 : Int32) 0 0 .unset rfl (Nat.zero_le _) (Nat.zero_le _) (Or.inl rfl) X0 e0 N0
  refine own_go (T' := T10) (f' := (mkF m 77 #[.val (.ref oa), .val (.ref ob), .val (.int (own_ord LA LB (LA.length - 0) 0 0 (0 : Int32))), .val (.int j10), .val (.ref oa), .val (.int na), .val (.int i10), s10] [])) ?_ (mg10)
  refine own_go (T' := T10) (f' := (mkF m 78 #[.val (.ref oa), .val (.ref ob), .val (.int (own_ord LA LB (LA.length - 0) 0 0 (0 : Int32))), .val (.int j10), .val (.ref oa), .val (.int na), .val (.int i10), s10] [(.int (own_ord LA LB (LA.length - 0) 0 0 (0 : Int32)))])) ?_ (fun _ k => XS.iloadN X10.here hx rfl (hb hby own_d4_77) rfl  k)
  obtain ⟨fs11, hr11, hrun11, hended11, hW11, hsame11⟩ := X10.leave (v := some (.int (own_ord LA LB (LA.length - 0) 0 0 (0 : Int32)))) (fun h => by rw [Bd.returns] at h; cases h)
  refine ⟨_, ⟨_, hrun11, hended11, _, _, rfl, ?_, ⟨_, rfl⟩, hW11, hsame11.mono (by decide) (by decide)⟩, fun _ k => (retI X10 hx Bd.returns (hb hby own_d4_78) hr11).trans k⟩
  show own_Q4 Z oa ob na LA nb LB h0 n0 _ T10.heap _
  rw [e10]
  exact ⟨rfl, N10, rfl⟩
theorem own_pd1 : parseMethodDescriptor "(III)[I" = some ⟨[.int, .int, .int], some (.array .int)⟩ := by decide +kernel
theorem own_pd2 : parseMethodDescriptor "([II[I)I" = some ⟨[(.array .int), .int, (.array .int)], some .int⟩ := by decide +kernel
theorem own_pd3 : parseMethodDescriptor "([I[I)I" = some ⟨[(.array .int), (.array .int)], some .int⟩ := by decide +kernel
def own_v0_3_s0 (xa : Int32) : Int32 := (if (2147483632 : Int32) < xa then (2147483632 : Int32) else xa)
def own_v0_19 (xb : Int32) : Int32 := (((xb.toUInt32 >>> ((7 : Int32) &&& 31).toUInt32).toInt32) &&& (3 : Int32))
def own_v0_27 (xc : Int32) : Int32 := (((xc.toUInt32 >>> ((7 : Int32) &&& 31).toUInt32).toInt32) &&& (3 : Int32))
def own_v0_73 (xa : Int32) (xb : Int32) (xc : Int32) : Int32 := (((own_f3 (0 : Int32) (own_v0_19 xb) (own_list1 (own_v0_3_s0 xa) xb (own_v0_19 xb)) (own_v0_27 xc) (own_list1 (own_v0_3_s0 xa) xc (own_v0_27 xc))) + (own_f3 (1 : Int32) (own_v0_19 xb) (own_list1 (own_v0_3_s0 xa) xb (own_v0_19 xb)) (own_v0_27 xc) (own_list1 (own_v0_3_s0 xa) xc (own_v0_27 xc)))) + (own_f3 (2 : Int32) (own_v0_19 xb) (own_list1 (own_v0_3_s0 xa) xb (own_v0_19 xb)) (own_v0_27 xc) (own_list1 (own_v0_3_s0 xa) xc (own_v0_27 xc))))
def own_v0_84_s0 (xa : Int32) (xb : Int32) (xc : Int32) : Int32 := (if (own_ord (own_list1 (own_v0_3_s0 xa) xb (own_v0_19 xb)) (own_list1 (own_v0_3_s0 xa) xc (own_v0_27 xc)) (own_list1 (own_v0_3_s0 xa) xb (own_v0_19 xb)).length 0 0 (0 : Int32)) = (own_v0_73 xa xb xc) then (1 : Int32) else (0 : Int32))
def own_f0 (xa : Int32) (xb : Int32) (xc : Int32) : Int32 := (own_v0_84_s0 xa xb xc)
theorem own_b0_84_s0 (xa : Int32) (xb : Int32) (xc : Int32) : (own_v0_84_s0 xa xb xc) &&& 1 = (own_v0_84_s0 xa xb xc) := (own_ite_bool (by decide) (by decide))
theorem own_bf0 (xa : Int32) (xb : Int32) (xc : Int32) : (own_f0 xa xb xc) &&& 1 = (own_f0 xa xb xc) := (own_b0_84_s0 xa xb xc)

theorem own_ef0 (m : MethodId) (xa : Int32) (xb : Int32) (xc : Int32) : entryFrame m #[(.int xa), (.int xb), (.int xc)] maxLocals = mkF m 0 #[.val (.int xa), .val (.int xb), .val (.int xc), .unset, .unset, .unset, .unset, .unset, .unset] [] := by first | (simp [entryFrame, mkF, argsToLocals, Value.category, maxLocals]; done) | rfl
def own_Q0 (Z : State) (xa : Int32) (xb : Int32) (xc : Int32) (h0 : Heap) (n0 : Nat) (v : Option Value) (h : Heap) (L : List Loc) : Prop := v = some (.int (own_f0 xa xb xc)) ∧ Fr n0 L
set_option maxRecDepth 65536 in
set_option maxHeartbeats 40000000 in
theorem own_rm0 (l : Launch) (Z : State) (a0 : Array Value) (hw : ∀ d ∈ tables_1, d.before a0 Z = true) (ws : List Jvm.Cond) (xa : Int32) (xb : Int32) (xc : Int32) (h0 : Heap) (n0 : Nat) (Z0 : n0 ≤ h0.size) :
    MetFree l x (head1 (Jvm.Cond.code x code maxLocals ret :: ws) room_1) (fun a U => a = #[(.int xa), (.int xb), (.int xc)] ∧ Z.Warmed39 U.vm ∧ U.heap = h0) (fun _ _ _ _ _ => True) (fun _ U o U' => ∃ v L, o = .returned v ∧ own_Q0 Z xa xb xc h0 n0 v U'.heap L ∧ FrameEnd U o U' L 16 128) := by
  refine MetFree.of_bodySF (plainFor_of_name own_pn0) hisR ?_
  intro p e s m args below meth c s₁ Bd hml0 hP hK
  obtain ⟨rfl, hZ, hh⟩ := hP
  have hx := Bd.exec
  have hby := Bd.bytes
  have hml : c.maxLocals = 9 := hml0
  have hown : s.vm.findClass "com/example/term_proximity_ranking/termproximityranking/WindowsOrderedPinLaw" = some m.cls := findClass_of_methodNamed Bd.named
  have hnm := (name_of_methodNamed Bd.named Bd.method).1
  have X0 : Stand p l e room_1 s m #[(.int xa), (.int xb), (.int xc)] below meth c s₁ [] 0 0 := Stand.of_body Bd
  have e0 : s₁.heap = h0 := by rw [← hh, Bd.state]; rfl
  have N0 := Fr.nil n0
  refine own_out (Q := fun o U' => ∃ v L, o = .returned v ∧ own_Q0 Z xa xb xc h0 n0 v U'.heap L ∧ FrameEnd s o U' L 16 128) ?_
  refine own_go (T' := s₁) (f' := (mkF m 0 #[.val (.int xa), .val (.int xb), .val (.int xc), .unset, .unset, .unset, .unset, .unset, .unset] [])) ?_ (fun _ k => castTop (own_ef0 m xa xb xc) k)
  refine own_go (T' := s₁) (f' := (mkF m 1 #[.val (.int xa), .val (.int xb), .val (.int xc), .unset, .unset, .unset, .unset, .unset, .unset] [(.int xa)])) ?_ (fun _ k => XS.iloadN X0.here hx rfl (hb hby at_0) rfl  k)
  refine own_go (T' := s₁) (f' := (mkF m 3 #[.val (.int xa), .val (.int xb), .val (.int xc), .unset, .unset, .unset, .unset, .unset, .unset] [(.int (2147483632 : Int32)), (.int xa)])) ?_ (X0.ldcInt hx hown (mvT hZ (hw _ (List.mem_of_getElem? (i := 0) rfl))) (g := (mkF m 1 #[.val (.int xa), .val (.int xb), .val (.int xc), .unset, .unset, .unset, .unset, .unset, .unset] [(.int xa)])) rfl (hb hby at_1))
  obtain ⟨_, ⟨T1, L1, rfl, X1, e1, N1⟩, mg1⟩ : own_Goes p.tables e below (fun uu => ∃ (T' : State) (L' : List Loc), uu = T'.setTop (mkF m 12 #[.val (.int xa), .val (.int xb), .val (.int xc), .unset, .unset, .unset, .unset, .unset, .unset] [(.int (own_v0_3_s0 xa))]) ∧ Stand p l e room_1 s m #[(.int xa), (.int xb), (.int xc)] below meth c T' L' 0 0 ∧ T'.heap = h0 ∧ Fr n0 L') s₁ (mkF m 3 #[.val (.int xa), .val (.int xb), .val (.int xc), .unset, .unset, .unset, .unset, .unset, .unset] [(.int (2147483632 : Int32)), (.int xa)]) := by
    by_cases hc3_2 : (2147483632 : Int32) < xa
    · refine own_go (T' := s₁) (f' := (mkF m 6 #[.val (.int xa), .val (.int xb), .val (.int xc), .unset, .unset, .unset, .unset, .unset, .unset] [])) ?_ (fun _ k => XS.icmpNo X0.here hx rfl (hb hby at_3) rfl (tlt hc3_2).2.2.2 k)
      refine own_go (T' := s₁) (f' := (mkF m 8 #[.val (.int xa), .val (.int xb), .val (.int xc), .unset, .unset, .unset, .unset, .unset, .unset] [(.int (2147483632 : Int32))])) ?_ (X0.ldcInt hx hown (mvT hZ (hw _ (List.mem_of_getElem? (i := 0) rfl))) (g := (mkF m 6 #[.val (.int xa), .val (.int xb), .val (.int xc), .unset, .unset, .unset, .unset, .unset, .unset] [])) rfl (hb hby at_6))
      refine own_go (T' := s₁) (f' := (mkF m 12 #[.val (.int xa), .val (.int xb), .val (.int xc), .unset, .unset, .unset, .unset, .unset, .unset] [(.int (2147483632 : Int32))])) ?_ (fun _ k => XS.goto X0.here hx rfl (pc0 := 8) (pc' := 12) rfl (hb hby at_8) (by decide) (by decide) k)
      have em3 : (own_v0_3_s0 xa) = (2147483632 : Int32) := (if_pos hc3_2)
      exact ⟨_, ⟨s₁, _, (by rw [em3]), X0, e0, N0⟩, fun _ k => k⟩
    · refine own_go (T' := s₁) (f' := (mkF m 11 #[.val (.int xa), .val (.int xb), .val (.int xc), .unset, .unset, .unset, .unset, .unset, .unset] [])) ?_ (fun _ k => XS.icmpYes X0.here hx rfl (pc0 := 3) (pc' := 11) rfl (hb hby at_3) rfl (flt hc3_2).2.2.2 (by decide) (by decide) k)
      refine own_go (T' := s₁) (f' := (mkF m 12 #[.val (.int xa), .val (.int xb), .val (.int xc), .unset, .unset, .unset, .unset, .unset, .unset] [(.int xa)])) ?_ (fun _ k => XS.iloadN X0.here hx rfl (hb hby at_11) rfl  k)
      have em4 : (own_v0_3_s0 xa) = xa := (if_neg hc3_2)
      exact ⟨_, ⟨s₁, _, (by rw [em4]), X0, e0, N0⟩, fun _ k => k⟩
  refine own_go (T' := T1) (f' := (mkF m 12 #[.val (.int xa), .val (.int xb), .val (.int xc), .unset, .unset, .unset, .unset, .unset, .unset] [(.int (own_v0_3_s0 xa))])) ?_ (mg1)
  refine own_go (T' := T1) (f' := (mkF m 13 #[.val (.int xa), .val (.int xb), .val (.int xc), .val (.int (own_v0_3_s0 xa)), .unset, .unset, .unset, .unset, .unset] [])) ?_ (fun _ k => XS.istoreN X1.here hx rfl (hb hby at_12) rfl (l' := #[.val (.int xa), .val (.int xb), .val (.int xc), .val (.int (own_v0_3_s0 xa)), .unset, .unset, .unset, .unset, .unset]) rfl k)
  refine own_go (T' := T1) (f' := (mkF m 14 #[.val (.int xa), .val (.int xb), .val (.int xc), .val (.int (own_v0_3_s0 xa)), .unset, .unset, .unset, .unset, .unset] [(.int xb)])) ?_ (fun _ k => XS.iloadN X1.here hx rfl (hb hby at_13) rfl  k)
  refine own_go (T' := T1) (f' := (mkF m 16 #[.val (.int xa), .val (.int xb), .val (.int xc), .val (.int (own_v0_3_s0 xa)), .unset, .unset, .unset, .unset, .unset] [(.int (7 : Int32)), (.int xb)])) ?_ (fun _ k => XS.bipush X1.here hx rfl (hb hby at_14) k)
  refine own_go (T' := T1) (f' := (mkF m 17 #[.val (.int xa), .val (.int xb), .val (.int xc), .val (.int (own_v0_3_s0 xa)), .unset, .unset, .unset, .unset, .unset] [(.int ((xb.toUInt32 >>> ((7 : Int32) &&& 31).toUInt32).toInt32))])) ?_ (fun _ k => XS.iushr X1.here hx rfl (hb hby at_16) rfl k)
  refine own_go (T' := T1) (f' := (mkF m 18 #[.val (.int xa), .val (.int xb), .val (.int xc), .val (.int (own_v0_3_s0 xa)), .unset, .unset, .unset, .unset, .unset] [(.int (3 : Int32)), (.int ((xb.toUInt32 >>> ((7 : Int32) &&& 31).toUInt32).toInt32))])) ?_ (fun _ k => XS.iconst X1.here hx rfl (hb hby at_17) k)
  refine own_go (T' := T1) (f' := (mkF m 19 #[.val (.int xa), .val (.int xb), .val (.int xc), .val (.int (own_v0_3_s0 xa)), .unset, .unset, .unset, .unset, .unset] [(.int (((xb.toUInt32 >>> ((7 : Int32) &&& 31).toUInt32).toInt32) &&& (3 : Int32)))])) ?_ (fun _ k => XS.iand X1.here hx rfl (hb hby at_18) rfl k)
  refine own_go (T' := T1) (f' := (mkF m 21 #[.val (.int xa), .val (.int xb), .val (.int xc), .val (.int (own_v0_3_s0 xa)), .val (.int (own_v0_19 xb)), .unset, .unset, .unset, .unset] [])) ?_ (fun _ k => XS.istore X1.here hx rfl (hb hby at_19) rfl (l' := #[.val (.int xa), .val (.int xb), .val (.int xc), .val (.int (own_v0_3_s0 xa)), .val (.int (own_v0_19 xb)), .unset, .unset, .unset, .unset]) rfl k)
  refine own_go (T' := T1) (f' := (mkF m 22 #[.val (.int xa), .val (.int xb), .val (.int xc), .val (.int (own_v0_3_s0 xa)), .val (.int (own_v0_19 xb)), .unset, .unset, .unset, .unset] [(.int xc)])) ?_ (fun _ k => XS.iloadN X1.here hx rfl (hb hby at_21) rfl  k)
  refine own_go (T' := T1) (f' := (mkF m 24 #[.val (.int xa), .val (.int xb), .val (.int xc), .val (.int (own_v0_3_s0 xa)), .val (.int (own_v0_19 xb)), .unset, .unset, .unset, .unset] [(.int (7 : Int32)), (.int xc)])) ?_ (fun _ k => XS.bipush X1.here hx rfl (hb hby at_22) k)
  refine own_go (T' := T1) (f' := (mkF m 25 #[.val (.int xa), .val (.int xb), .val (.int xc), .val (.int (own_v0_3_s0 xa)), .val (.int (own_v0_19 xb)), .unset, .unset, .unset, .unset] [(.int ((xc.toUInt32 >>> ((7 : Int32) &&& 31).toUInt32).toInt32))])) ?_ (fun _ k => XS.iushr X1.here hx rfl (hb hby at_24) rfl k)
  refine own_go (T' := T1) (f' := (mkF m 26 #[.val (.int xa), .val (.int xb), .val (.int xc), .val (.int (own_v0_3_s0 xa)), .val (.int (own_v0_19 xb)), .unset, .unset, .unset, .unset] [(.int (3 : Int32)), (.int ((xc.toUInt32 >>> ((7 : Int32) &&& 31).toUInt32).toInt32))])) ?_ (fun _ k => XS.iconst X1.here hx rfl (hb hby at_25) k)
  refine own_go (T' := T1) (f' := (mkF m 27 #[.val (.int xa), .val (.int xb), .val (.int xc), .val (.int (own_v0_3_s0 xa)), .val (.int (own_v0_19 xb)), .unset, .unset, .unset, .unset] [(.int (((xc.toUInt32 >>> ((7 : Int32) &&& 31).toUInt32).toInt32) &&& (3 : Int32)))])) ?_ (fun _ k => XS.iand X1.here hx rfl (hb hby at_26) rfl k)
  refine own_go (T' := T1) (f' := (mkF m 29 #[.val (.int xa), .val (.int xb), .val (.int xc), .val (.int (own_v0_3_s0 xa)), .val (.int (own_v0_19 xb)), .val (.int (own_v0_27 xc)), .unset, .unset, .unset] [])) ?_ (fun _ k => XS.istore X1.here hx rfl (hb hby at_27) rfl (l' := #[.val (.int xa), .val (.int xb), .val (.int xc), .val (.int (own_v0_3_s0 xa)), .val (.int (own_v0_19 xb)), .val (.int (own_v0_27 xc)), .unset, .unset, .unset]) rfl k)
  refine own_go (T' := T1) (f' := (mkF m 30 #[.val (.int xa), .val (.int xb), .val (.int xc), .val (.int (own_v0_3_s0 xa)), .val (.int (own_v0_19 xb)), .val (.int (own_v0_27 xc)), .unset, .unset, .unset] [(.int (own_v0_3_s0 xa))])) ?_ (fun _ k => XS.iloadN X1.here hx rfl (hb hby at_29) rfl  k)
  refine own_go (T' := T1) (f' := (mkF m 31 #[.val (.int xa), .val (.int xb), .val (.int xc), .val (.int (own_v0_3_s0 xa)), .val (.int (own_v0_19 xb)), .val (.int (own_v0_27 xc)), .unset, .unset, .unset] [(.int xb), (.int (own_v0_3_s0 xa))])) ?_ (fun _ k => XS.iloadN X1.here hx rfl (hb hby at_30) rfl  k)
  refine own_go (T' := T1) (f' := (mkF m 33 #[.val (.int xa), .val (.int xb), .val (.int xc), .val (.int (own_v0_3_s0 xa)), .val (.int (own_v0_19 xb)), .val (.int (own_v0_27 xc)), .unset, .unset, .unset] [(.int (own_v0_19 xb)), (.int xb), (.int (own_v0_3_s0 xa))])) ?_ (fun _ k => XS.iload X1.here hx rfl (hb hby at_31) rfl  k)
  obtain ⟨_, _, ⟨T5, L5, k5, n5⟩, -, X5, ⟨Lc5, hQ5, l5, y5, z5⟩, st5⟩ := Jvm.LawKit.callS X1 hx (y := (⟨"com/example/term_proximity_ranking/termproximityranking/WindowsOrderedPinLaw", "build", "(III)[I"⟩ : MethodName)) hown (mvT hZ (hw _ (List.mem_of_getElem? (i := 1) rfl))) (mvT hZ (hw _ (List.mem_of_getElem? (i := 2) rfl))) (mvT hZ (hw _ (List.mem_of_getElem? (i := 3) rfl))) (mvT hZ (hw _ (List.mem_of_getElem? (i := 4) rfl))) (by decide) (backOf (W := 0) (own_rm1 l Z a0 hw [] (own_v0_3_s0 xa) xb (own_v0_19 xb) h0 n0 Z0 ((own_m3 _).1) ((own_m3 _).2)) hZ (hw _ (List.mem_of_getElem? (i := 4) rfl)) (hw _ (List.mem_of_getElem? (i := 3) rfl)) (by decide) (by decide)) (g := (mkF m 33 #[.val (.int xa), .val (.int xb), .val (.int xc), .val (.int (own_v0_3_s0 xa)), .val (.int (own_v0_19 xb)), .val (.int (own_v0_27 xc)), .unset, .unset, .unset] [(.int (own_v0_19 xb)), (.int xb), (.int (own_v0_3_s0 xa))])) rfl (by rw [hml]; rfl) (argsL := [(.int (own_v0_3_s0 xa)), (.int xb), (.int (own_v0_19 xb))]) (rest := []) (lenOf own_pd1 rfl) rfl (by show 2 * 0 + _ ≤ _; exact Nat.le_of_eq rfl) (hb hby at_33) (fun _ _ => ⟨rfl, e1, (by decide : 0 + 1 ≤ _), (by decide : 0 + 3 ≤ _)⟩)
  dsimp only [Pt.U, Pt.locs, Pt.cells, Pt.slots] at X5 l5 y5 z5 st5 hQ5
  subst y5 z5
  obtain ⟨ob_5, rfl, N5q, K5, P5_0, P5_1⟩ := hQ5
  have KK5 : Keep h0 T5.heap [] := (Keep.refl h0 []).trans K5 all0
  have ZZ5 : n0 ≤ T5.heap.size := Nat.le_trans Z0 K5.1
  have g_ob_5 : n0 ≤ ob_5 := Nat.le_trans Z0 P5_0
  have sz_ob_5 : h0.size ≤ ob_5 := Nat.le_trans (Keep.refl h0 []).1 P5_0
  have N5 : Fr n0 L5 := l5 ▸ Fr.app N1 N5q
  refine own_go (T' := T5) (f' := (mkF m 36 #[.val (.int xa), .val (.int xb), .val (.int xc), .val (.int (own_v0_3_s0 xa)), .val (.int (own_v0_19 xb)), .val (.int (own_v0_27 xc)), .unset, .unset, .unset] [(.ref ob_5)])) ?_ (st5)
  refine own_go (T' := T5) (f' := (mkF m 38 #[.val (.int xa), .val (.int xb), .val (.int xc), .val (.int (own_v0_3_s0 xa)), .val (.int (own_v0_19 xb)), .val (.int (own_v0_27 xc)), .val (.ref ob_5), .unset, .unset] [])) ?_ (fun _ k => XS.astore X5.here hx rfl (hb hby at_36) rfl rfl (l' := #[.val (.int xa), .val (.int xb), .val (.int xc), .val (.int (own_v0_3_s0 xa)), .val (.int (own_v0_19 xb)), .val (.int (own_v0_27 xc)), .val (.ref ob_5), .unset, .unset]) rfl k)
  refine own_go (T' := T5) (f' := (mkF m 39 #[.val (.int xa), .val (.int xb), .val (.int xc), .val (.int (own_v0_3_s0 xa)), .val (.int (own_v0_19 xb)), .val (.int (own_v0_27 xc)), .val (.ref ob_5), .unset, .unset] [(.int (own_v0_3_s0 xa))])) ?_ (fun _ k => XS.iloadN X5.here hx rfl (hb hby at_38) rfl  k)
  refine own_go (T' := T5) (f' := (mkF m 40 #[.val (.int xa), .val (.int xb), .val (.int xc), .val (.int (own_v0_3_s0 xa)), .val (.int (own_v0_19 xb)), .val (.int (own_v0_27 xc)), .val (.ref ob_5), .unset, .unset] [(.int xc), (.int (own_v0_3_s0 xa))])) ?_ (fun _ k => XS.iloadN X5.here hx rfl (hb hby at_39) rfl  k)
  refine own_go (T' := T5) (f' := (mkF m 42 #[.val (.int xa), .val (.int xb), .val (.int xc), .val (.int (own_v0_3_s0 xa)), .val (.int (own_v0_19 xb)), .val (.int (own_v0_27 xc)), .val (.ref ob_5), .unset, .unset] [(.int (own_v0_27 xc)), (.int xc), (.int (own_v0_3_s0 xa))])) ?_ (fun _ k => XS.iload X5.here hx rfl (hb hby at_40) rfl  k)
  obtain ⟨_, _, ⟨T6, L6, k6, n6⟩, -, X6, ⟨Lc6, hQ6, l6, y6, z6⟩, st6⟩ := Jvm.LawKit.callS X5 hx (y := (⟨"com/example/term_proximity_ranking/termproximityranking/WindowsOrderedPinLaw", "build", "(III)[I"⟩ : MethodName)) hown (mvT hZ (hw _ (List.mem_of_getElem? (i := 1) rfl))) (mvT hZ (hw _ (List.mem_of_getElem? (i := 2) rfl))) (mvT hZ (hw _ (List.mem_of_getElem? (i := 3) rfl))) (mvT hZ (hw _ (List.mem_of_getElem? (i := 4) rfl))) (by decide) (backOf (W := 0) (own_rm1 l Z a0 hw [] (own_v0_3_s0 xa) xc (own_v0_27 xc) T5.heap n0 ZZ5 ((own_m3 _).1) ((own_m3 _).2)) hZ (hw _ (List.mem_of_getElem? (i := 4) rfl)) (hw _ (List.mem_of_getElem? (i := 3) rfl)) (by decide) (by decide)) (g := (mkF m 42 #[.val (.int xa), .val (.int xb), .val (.int xc), .val (.int (own_v0_3_s0 xa)), .val (.int (own_v0_19 xb)), .val (.int (own_v0_27 xc)), .val (.ref ob_5), .unset, .unset] [(.int (own_v0_27 xc)), (.int xc), (.int (own_v0_3_s0 xa))])) rfl (by rw [hml]; rfl) (argsL := [(.int (own_v0_3_s0 xa)), (.int xc), (.int (own_v0_27 xc))]) (rest := []) (lenOf own_pd1 rfl) rfl (by show 2 * 0 + _ ≤ _; exact Nat.le_of_eq rfl) (hb hby at_42) (fun _ _ => ⟨rfl, rfl, (by decide : 1 + 1 ≤ _), (by decide : 3 + 3 ≤ _)⟩)
  dsimp only [Pt.U, Pt.locs, Pt.cells, Pt.slots] at X6 l6 y6 z6 st6 hQ6
  subst y6 z6
  obtain ⟨ob_6, rfl, N6q, K6, P6_0, P6_1⟩ := hQ6
  have fa7 := P5_1.keep K6 nin0
  have KK6 : Keep h0 T6.heap [] := KK5.trans K6 all0
  have ZZ6 : n0 ≤ T6.heap.size := Nat.le_trans ZZ5 K6.1
  have g_ob_6 : n0 ≤ ob_6 := Nat.le_trans ZZ5 P6_0
  have sz_ob_6 : h0.size ≤ ob_6 := Nat.le_trans KK5.1 P6_0
  have ne_ob_5_ob_6 : ob_5 ≠ ob_6 := Nat.ne_of_lt (Nat.lt_of_lt_of_le P5_1.lt P6_0)
  have N6 : Fr n0 L6 := l6 ▸ Fr.app N5 N6q
  refine own_go (T' := T6) (f' := (mkF m 45 #[.val (.int xa), .val (.int xb), .val (.int xc), .val (.int (own_v0_3_s0 xa)), .val (.int (own_v0_19 xb)), .val (.int (own_v0_27 xc)), .val (.ref ob_5), .unset, .unset] [(.ref ob_6)])) ?_ (st6)
  refine own_go (T' := T6) (f' := (mkF m 47 #[.val (.int xa), .val (.int xb), .val (.int xc), .val (.int (own_v0_3_s0 xa)), .val (.int (own_v0_19 xb)), .val (.int (own_v0_27 xc)), .val (.ref ob_5), .val (.ref ob_6), .unset] [])) ?_ (fun _ k => XS.astore X6.here hx rfl (hb hby at_45) rfl rfl (l' := #[.val (.int xa), .val (.int xb), .val (.int xc), .val (.int (own_v0_3_s0 xa)), .val (.int (own_v0_19 xb)), .val (.int (own_v0_27 xc)), .val (.ref ob_5), .val (.ref ob_6), .unset]) rfl k)
  refine own_go (T' := T6) (f' := (mkF m 49 #[.val (.int xa), .val (.int xb), .val (.int xc), .val (.int (own_v0_3_s0 xa)), .val (.int (own_v0_19 xb)), .val (.int (own_v0_27 xc)), .val (.ref ob_5), .val (.ref ob_6), .unset] [(.ref ob_5)])) ?_ (fun _ k => XS.aload X6.here hx rfl (hb hby at_47) rfl rfl k)
  refine own_go (T' := T6) (f' := (mkF m 50 #[.val (.int xa), .val (.int xb), .val (.int xc), .val (.int (own_v0_3_s0 xa)), .val (.int (own_v0_19 xb)), .val (.int (own_v0_27 xc)), .val (.ref ob_5), .val (.ref ob_6), .unset] [(.int (0 : Int32)), (.ref ob_5)])) ?_ (fun _ k => XS.iconst X6.here hx rfl (hb hby at_49) k)
  refine own_go (T' := T6) (f' := (mkF m 52 #[.val (.int xa), .val (.int xb), .val (.int xc), .val (.int (own_v0_3_s0 xa)), .val (.int (own_v0_19 xb)), .val (.int (own_v0_27 xc)), .val (.ref ob_5), .val (.ref ob_6), .unset] [(.ref ob_6), (.int (0 : Int32)), (.ref ob_5)])) ?_ (fun _ k => XS.aload X6.here hx rfl (hb hby at_50) rfl rfl k)
  obtain ⟨_, _, ⟨T8, L8, k8, n8⟩, -, X8, ⟨Lc8, hQ8, l8, y8, z8⟩, st8⟩ := Jvm.LawKit.callS X6 hx (y := (⟨"com/example/term_proximity_ranking/termproximityranking/WindowsOrderedPinLaw", "row", "([II[I)I"⟩ : MethodName)) hown (mvT hZ (hw _ (List.mem_of_getElem? (i := 6) rfl))) (mvT hZ (hw _ (List.mem_of_getElem? (i := 7) rfl))) (mvT hZ (hw _ (List.mem_of_getElem? (i := 3) rfl))) (mvT hZ (hw _ (List.mem_of_getElem? (i := 8) rfl))) (by decide) (backOf (W := 0) (own_rm3 l Z a0 hw [] ob_5 (0 : Int32) ob_6 (own_v0_19 xb) (own_list1 (own_v0_3_s0 xa) xb (own_v0_19 xb)) (own_v0_27 xc) (own_list1 (own_v0_3_s0 xa) xc (own_v0_27 xc)) T6.heap n0 ZZ6 fa7 P6_1 (by first | assumption | decide : ¬ (0 : Int32) < (0 : Int32))) hZ (hw _ (List.mem_of_getElem? (i := 8) rfl)) (hw _ (List.mem_of_getElem? (i := 3) rfl)) (by decide) (by decide)) (g := (mkF m 52 #[.val (.int xa), .val (.int xb), .val (.int xc), .val (.int (own_v0_3_s0 xa)), .val (.int (own_v0_19 xb)), .val (.int (own_v0_27 xc)), .val (.ref ob_5), .val (.ref ob_6), .unset] [(.ref ob_6), (.int (0 : Int32)), (.ref ob_5)])) rfl (by rw [hml]; rfl) (argsL := [(.ref ob_5), (.int (0 : Int32)), (.ref ob_6)]) (rest := []) (lenOf own_pd2 rfl) rfl (by show 2 * 0 + _ ≤ _; exact Nat.le_of_eq rfl) (hb hby at_52) (fun _ _ => ⟨rfl, rfl, (by decide : 2 + 0 ≤ _), (by decide : 6 + 0 ≤ _)⟩)
  dsimp only [Pt.U, Pt.locs, Pt.cells, Pt.slots] at X8 l8 y8 z8 st8 hQ8
  subst y8 z8
  obtain ⟨rfl, N8q, e8⟩ := hQ8
  have N8 : Fr n0 L8 := l8 ▸ Fr.app N6 N8q
  refine own_go (T' := T8) (f' := (mkF m 55 #[.val (.int xa), .val (.int xb), .val (.int xc), .val (.int (own_v0_3_s0 xa)), .val (.int (own_v0_19 xb)), .val (.int (own_v0_27 xc)), .val (.ref ob_5), .val (.ref ob_6), .unset] [(.int (own_f3 (0 : Int32) (own_v0_19 xb) (own_list1 (own_v0_3_s0 xa) xb (own_v0_19 xb)) (own_v0_27 xc) (own_list1 (own_v0_3_s0 xa) xc (own_v0_27 xc))))])) ?_ (st8)
  refine own_go (T' := T8) (f' := (mkF m 57 #[.val (.int xa), .val (.int xb), .val (.int xc), .val (.int (own_v0_3_s0 xa)), .val (.int (own_v0_19 xb)), .val (.int (own_v0_27 xc)), .val (.ref ob_5), .val (.ref ob_6), .unset] [(.ref ob_5), (.int (own_f3 (0 : Int32) (own_v0_19 xb) (own_list1 (own_v0_3_s0 xa) xb (own_v0_19 xb)) (own_v0_27 xc) (own_list1 (own_v0_3_s0 xa) xc (own_v0_27 xc))))])) ?_ (fun _ k => XS.aload X8.here hx rfl (hb hby at_55) rfl rfl k)
  refine own_go (T' := T8) (f' := (mkF m 58 #[.val (.int xa), .val (.int xb), .val (.int xc), .val (.int (own_v0_3_s0 xa)), .val (.int (own_v0_19 xb)), .val (.int (own_v0_27 xc)), .val (.ref ob_5), .val (.ref ob_6), .unset] [(.int (1 : Int32)), (.ref ob_5), (.int (own_f3 (0 : Int32) (own_v0_19 xb) (own_list1 (own_v0_3_s0 xa) xb (own_v0_19 xb)) (own_v0_27 xc) (own_list1 (own_v0_3_s0 xa) xc (own_v0_27 xc))))])) ?_ (fun _ k => XS.iconst X8.here hx rfl (hb hby at_57) k)
  refine own_go (T' := T8) (f' := (mkF m 60 #[.val (.int xa), .val (.int xb), .val (.int xc), .val (.int (own_v0_3_s0 xa)), .val (.int (own_v0_19 xb)), .val (.int (own_v0_27 xc)), .val (.ref ob_5), .val (.ref ob_6), .unset] [(.ref ob_6), (.int (1 : Int32)), (.ref ob_5), (.int (own_f3 (0 : Int32) (own_v0_19 xb) (own_list1 (own_v0_3_s0 xa) xb (own_v0_19 xb)) (own_v0_27 xc) (own_list1 (own_v0_3_s0 xa) xc (own_v0_27 xc))))])) ?_ (fun _ k => XS.aload X8.here hx rfl (hb hby at_58) rfl rfl k)
  obtain ⟨_, _, ⟨T9, L9, k9, n9⟩, -, X9, ⟨Lc9, hQ9, l9, y9, z9⟩, st9⟩ := Jvm.LawKit.callS X8 hx (y := (⟨"com/example/term_proximity_ranking/termproximityranking/WindowsOrderedPinLaw", "row", "([II[I)I"⟩ : MethodName)) hown (mvT hZ (hw _ (List.mem_of_getElem? (i := 6) rfl))) (mvT hZ (hw _ (List.mem_of_getElem? (i := 7) rfl))) (mvT hZ (hw _ (List.mem_of_getElem? (i := 3) rfl))) (mvT hZ (hw _ (List.mem_of_getElem? (i := 8) rfl))) (by decide) (backOf (W := 1) (own_rm3 l Z a0 hw [] ob_5 (1 : Int32) ob_6 (own_v0_19 xb) (own_list1 (own_v0_3_s0 xa) xb (own_v0_19 xb)) (own_v0_27 xc) (own_list1 (own_v0_3_s0 xa) xc (own_v0_27 xc)) T6.heap n0 ZZ6 fa7 P6_1 (by first | assumption | decide : ¬ (1 : Int32) < (0 : Int32))) hZ (hw _ (List.mem_of_getElem? (i := 8) rfl)) (hw _ (List.mem_of_getElem? (i := 3) rfl)) (by decide) (by decide)) (g := (mkF m 60 #[.val (.int xa), .val (.int xb), .val (.int xc), .val (.int (own_v0_3_s0 xa)), .val (.int (own_v0_19 xb)), .val (.int (own_v0_27 xc)), .val (.ref ob_5), .val (.ref ob_6), .unset] [(.ref ob_6), (.int (1 : Int32)), (.ref ob_5), (.int (own_f3 (0 : Int32) (own_v0_19 xb) (own_list1 (own_v0_3_s0 xa) xb (own_v0_19 xb)) (own_v0_27 xc) (own_list1 (own_v0_3_s0 xa) xc (own_v0_27 xc))))])) rfl (by rw [hml]; rfl) (argsL := [(.ref ob_5), (.int (1 : Int32)), (.ref ob_6)]) (rest := [(.int (own_f3 (0 : Int32) (own_v0_19 xb) (own_list1 (own_v0_3_s0 xa) xb (own_v0_19 xb)) (own_v0_27 xc) (own_list1 (own_v0_3_s0 xa) xc (own_v0_27 xc))))]) (lenOf own_pd2 rfl) rfl (by show 2 * 0 + _ ≤ _; exact Nat.le_of_eq rfl) (hb hby at_60) (fun _ _ => ⟨rfl, e8, (by decide : 2 + 0 ≤ _), (by decide : 6 + 0 ≤ _)⟩)
  dsimp only [Pt.U, Pt.locs, Pt.cells, Pt.slots] at X9 l9 y9 z9 st9 hQ9
  subst y9 z9
  obtain ⟨rfl, N9q, e9⟩ := hQ9
  have N9 : Fr n0 L9 := l9 ▸ Fr.app N8 N9q
  refine own_go (T' := T9) (f' := (mkF m 63 #[.val (.int xa), .val (.int xb), .val (.int xc), .val (.int (own_v0_3_s0 xa)), .val (.int (own_v0_19 xb)), .val (.int (own_v0_27 xc)), .val (.ref ob_5), .val (.ref ob_6), .unset] [(.int (own_f3 (1 : Int32) (own_v0_19 xb) (own_list1 (own_v0_3_s0 xa) xb (own_v0_19 xb)) (own_v0_27 xc) (own_list1 (own_v0_3_s0 xa) xc (own_v0_27 xc)))), (.int (own_f3 (0 : Int32) (own_v0_19 xb) (own_list1 (own_v0_3_s0 xa) xb (own_v0_19 xb)) (own_v0_27 xc) (own_list1 (own_v0_3_s0 xa) xc (own_v0_27 xc))))])) ?_ (st9)
  refine own_go (T' := T9) (f' := (mkF m 64 #[.val (.int xa), .val (.int xb), .val (.int xc), .val (.int (own_v0_3_s0 xa)), .val (.int (own_v0_19 xb)), .val (.int (own_v0_27 xc)), .val (.ref ob_5), .val (.ref ob_6), .unset] [(.int ((own_f3 (0 : Int32) (own_v0_19 xb) (own_list1 (own_v0_3_s0 xa) xb (own_v0_19 xb)) (own_v0_27 xc) (own_list1 (own_v0_3_s0 xa) xc (own_v0_27 xc))) + (own_f3 (1 : Int32) (own_v0_19 xb) (own_list1 (own_v0_3_s0 xa) xb (own_v0_19 xb)) (own_v0_27 xc) (own_list1 (own_v0_3_s0 xa) xc (own_v0_27 xc)))))])) ?_ (fun _ k => XS.iadd X9.here hx rfl (hb hby at_63) rfl k)
  refine own_go (T' := T9) (f' := (mkF m 66 #[.val (.int xa), .val (.int xb), .val (.int xc), .val (.int (own_v0_3_s0 xa)), .val (.int (own_v0_19 xb)), .val (.int (own_v0_27 xc)), .val (.ref ob_5), .val (.ref ob_6), .unset] [(.ref ob_5), (.int ((own_f3 (0 : Int32) (own_v0_19 xb) (own_list1 (own_v0_3_s0 xa) xb (own_v0_19 xb)) (own_v0_27 xc) (own_list1 (own_v0_3_s0 xa) xc (own_v0_27 xc))) + (own_f3 (1 : Int32) (own_v0_19 xb) (own_list1 (own_v0_3_s0 xa) xb (own_v0_19 xb)) (own_v0_27 xc) (own_list1 (own_v0_3_s0 xa) xc (own_v0_27 xc)))))])) ?_ (fun _ k => XS.aload X9.here hx rfl (hb hby at_64) rfl rfl k)
  refine own_go (T' := T9) (f' := (mkF m 67 #[.val (.int xa), .val (.int xb), .val (.int xc), .val (.int (own_v0_3_s0 xa)), .val (.int (own_v0_19 xb)), .val (.int (own_v0_27 xc)), .val (.ref ob_5), .val (.ref ob_6), .unset] [(.int (2 : Int32)), (.ref ob_5), (.int ((own_f3 (0 : Int32) (own_v0_19 xb) (own_list1 (own_v0_3_s0 xa) xb (own_v0_19 xb)) (own_v0_27 xc) (own_list1 (own_v0_3_s0 xa) xc (own_v0_27 xc))) + (own_f3 (1 : Int32) (own_v0_19 xb) (own_list1 (own_v0_3_s0 xa) xb (own_v0_19 xb)) (own_v0_27 xc) (own_list1 (own_v0_3_s0 xa) xc (own_v0_27 xc)))))])) ?_ (fun _ k => XS.iconst X9.here hx rfl (hb hby at_66) k)
  refine own_go (T' := T9) (f' := (mkF m 69 #[.val (.int xa), .val (.int xb), .val (.int xc), .val (.int (own_v0_3_s0 xa)), .val (.int (own_v0_19 xb)), .val (.int (own_v0_27 xc)), .val (.ref ob_5), .val (.ref ob_6), .unset] [(.ref ob_6), (.int (2 : Int32)), (.ref ob_5), (.int ((own_f3 (0 : Int32) (own_v0_19 xb) (own_list1 (own_v0_3_s0 xa) xb (own_v0_19 xb)) (own_v0_27 xc) (own_list1 (own_v0_3_s0 xa) xc (own_v0_27 xc))) + (own_f3 (1 : Int32) (own_v0_19 xb) (own_list1 (own_v0_3_s0 xa) xb (own_v0_19 xb)) (own_v0_27 xc) (own_list1 (own_v0_3_s0 xa) xc (own_v0_27 xc)))))])) ?_ (fun _ k => XS.aload X9.here hx rfl (hb hby at_67) rfl rfl k)
  obtain ⟨_, _, ⟨T10, L10, k10, n10⟩, -, X10, ⟨Lc10, hQ10, l10, y10, z10⟩, st10⟩ := Jvm.LawKit.callS X9 hx (y := (⟨"com/example/term_proximity_ranking/termproximityranking/WindowsOrderedPinLaw", "row", "([II[I)I"⟩ : MethodName)) hown (mvT hZ (hw _ (List.mem_of_getElem? (i := 6) rfl))) (mvT hZ (hw _ (List.mem_of_getElem? (i := 7) rfl))) (mvT hZ (hw _ (List.mem_of_getElem? (i := 3) rfl))) (mvT hZ (hw _ (List.mem_of_getElem? (i := 8) rfl))) (by decide) (backOf (W := 1) (own_rm3 l Z a0 hw [] ob_5 (2 : Int32) ob_6 (own_v0_19 xb) (own_list1 (own_v0_3_s0 xa) xb (own_v0_19 xb)) (own_v0_27 xc) (own_list1 (own_v0_3_s0 xa) xc (own_v0_27 xc)) T6.heap n0 ZZ6 fa7 P6_1 (by first | assumption | decide : ¬ (2 : Int32) < (0 : Int32))) hZ (hw _ (List.mem_of_getElem? (i := 8) rfl)) (hw _ (List.mem_of_getElem? (i := 3) rfl)) (by decide) (by decide)) (g := (mkF m 69 #[.val (.int xa), .val (.int xb), .val (.int xc), .val (.int (own_v0_3_s0 xa)), .val (.int (own_v0_19 xb)), .val (.int (own_v0_27 xc)), .val (.ref ob_5), .val (.ref ob_6), .unset] [(.ref ob_6), (.int (2 : Int32)), (.ref ob_5), (.int ((own_f3 (0 : Int32) (own_v0_19 xb) (own_list1 (own_v0_3_s0 xa) xb (own_v0_19 xb)) (own_v0_27 xc) (own_list1 (own_v0_3_s0 xa) xc (own_v0_27 xc))) + (own_f3 (1 : Int32) (own_v0_19 xb) (own_list1 (own_v0_3_s0 xa) xb (own_v0_19 xb)) (own_v0_27 xc) (own_list1 (own_v0_3_s0 xa) xc (own_v0_27 xc)))))])) rfl (by rw [hml]; rfl) (argsL := [(.ref ob_5), (.int (2 : Int32)), (.ref ob_6)]) (rest := [(.int ((own_f3 (0 : Int32) (own_v0_19 xb) (own_list1 (own_v0_3_s0 xa) xb (own_v0_19 xb)) (own_v0_27 xc) (own_list1 (own_v0_3_s0 xa) xc (own_v0_27 xc))) + (own_f3 (1 : Int32) (own_v0_19 xb) (own_list1 (own_v0_3_s0 xa) xb (own_v0_19 xb)) (own_v0_27 xc) (own_list1 (own_v0_3_s0 xa) xc (own_v0_27 xc)))))]) (lenOf own_pd2 rfl) rfl (by show 2 * 0 + _ ≤ _; exact Nat.le_of_eq rfl) (hb hby at_69) (fun _ _ => ⟨rfl, e9, (by decide : 2 + 0 ≤ _), (by decide : 6 + 0 ≤ _)⟩)
  dsimp only [Pt.U, Pt.locs, Pt.cells, Pt.slots] at X10 l10 y10 z10 st10 hQ10
  subst y10 z10
  obtain ⟨rfl, N10q, e10⟩ := hQ10
  have N10 : Fr n0 L10 := l10 ▸ Fr.app N9 N10q
  refine own_go (T' := T10) (f' := (mkF m 72 #[.val (.int xa), .val (.int xb), .val (.int xc), .val (.int (own_v0_3_s0 xa)), .val (.int (own_v0_19 xb)), .val (.int (own_v0_27 xc)), .val (.ref ob_5), .val (.ref ob_6), .unset] [(.int (own_f3 (2 : Int32) (own_v0_19 xb) (own_list1 (own_v0_3_s0 xa) xb (own_v0_19 xb)) (own_v0_27 xc) (own_list1 (own_v0_3_s0 xa) xc (own_v0_27 xc)))), (.int ((own_f3 (0 : Int32) (own_v0_19 xb) (own_list1 (own_v0_3_s0 xa) xb (own_v0_19 xb)) (own_v0_27 xc) (own_list1 (own_v0_3_s0 xa) xc (own_v0_27 xc))) + (own_f3 (1 : Int32) (own_v0_19 xb) (own_list1 (own_v0_3_s0 xa) xb (own_v0_19 xb)) (own_v0_27 xc) (own_list1 (own_v0_3_s0 xa) xc (own_v0_27 xc)))))])) ?_ (st10)
  refine own_go (T' := T10) (f' := (mkF m 73 #[.val (.int xa), .val (.int xb), .val (.int xc), .val (.int (own_v0_3_s0 xa)), .val (.int (own_v0_19 xb)), .val (.int (own_v0_27 xc)), .val (.ref ob_5), .val (.ref ob_6), .unset] [(.int (((own_f3 (0 : Int32) (own_v0_19 xb) (own_list1 (own_v0_3_s0 xa) xb (own_v0_19 xb)) (own_v0_27 xc) (own_list1 (own_v0_3_s0 xa) xc (own_v0_27 xc))) + (own_f3 (1 : Int32) (own_v0_19 xb) (own_list1 (own_v0_3_s0 xa) xb (own_v0_19 xb)) (own_v0_27 xc) (own_list1 (own_v0_3_s0 xa) xc (own_v0_27 xc)))) + (own_f3 (2 : Int32) (own_v0_19 xb) (own_list1 (own_v0_3_s0 xa) xb (own_v0_19 xb)) (own_v0_27 xc) (own_list1 (own_v0_3_s0 xa) xc (own_v0_27 xc)))))])) ?_ (fun _ k => XS.iadd X10.here hx rfl (hb hby at_72) rfl k)
  refine own_go (T' := T10) (f' := (mkF m 75 #[.val (.int xa), .val (.int xb), .val (.int xc), .val (.int (own_v0_3_s0 xa)), .val (.int (own_v0_19 xb)), .val (.int (own_v0_27 xc)), .val (.ref ob_5), .val (.ref ob_6), .val (.int (own_v0_73 xa xb xc))] [])) ?_ (fun _ k => XS.istore X10.here hx rfl (hb hby at_73) rfl (l' := #[.val (.int xa), .val (.int xb), .val (.int xc), .val (.int (own_v0_3_s0 xa)), .val (.int (own_v0_19 xb)), .val (.int (own_v0_27 xc)), .val (.ref ob_5), .val (.ref ob_6), .val (.int (own_v0_73 xa xb xc))]) rfl k)
  refine own_go (T' := T10) (f' := (mkF m 77 #[.val (.int xa), .val (.int xb), .val (.int xc), .val (.int (own_v0_3_s0 xa)), .val (.int (own_v0_19 xb)), .val (.int (own_v0_27 xc)), .val (.ref ob_5), .val (.ref ob_6), .val (.int (own_v0_73 xa xb xc))] [(.ref ob_5)])) ?_ (fun _ k => XS.aload X10.here hx rfl (hb hby at_75) rfl rfl k)
  refine own_go (T' := T10) (f' := (mkF m 79 #[.val (.int xa), .val (.int xb), .val (.int xc), .val (.int (own_v0_3_s0 xa)), .val (.int (own_v0_19 xb)), .val (.int (own_v0_27 xc)), .val (.ref ob_5), .val (.ref ob_6), .val (.int (own_v0_73 xa xb xc))] [(.ref ob_6), (.ref ob_5)])) ?_ (fun _ k => XS.aload X10.here hx rfl (hb hby at_77) rfl rfl k)
  obtain ⟨_, _, ⟨T11, L11, k11, n11⟩, -, X11, ⟨Lc11, hQ11, l11, y11, z11⟩, st11⟩ := Jvm.LawKit.callS X10 hx (y := (⟨"com/example/term_proximity_ranking/termproximityranking/Windows", "ordered", "([I[I)I"⟩ : MethodName)) hown (mvT hZ (hw _ (List.mem_of_getElem? (i := 12) rfl))) (mvT hZ (hw _ (List.mem_of_getElem? (i := 13) rfl))) (mvT hZ (hw _ (List.mem_of_getElem? (i := 14) rfl))) (mvT hZ (hw _ (List.mem_of_getElem? (i := 15) rfl))) (by decide) (backOf (W := 0) (own_rm4 l Z a0 hw [] ob_5 ob_6 (own_v0_19 xb) (own_list1 (own_v0_3_s0 xa) xb (own_v0_19 xb)) (own_v0_27 xc) (own_list1 (own_v0_3_s0 xa) xc (own_v0_27 xc)) T6.heap n0 ZZ6 fa7 P6_1) hZ (hw _ (List.mem_of_getElem? (i := 15) rfl)) (hw _ (List.mem_of_getElem? (i := 14) rfl)) (by decide) (by decide)) (g := (mkF m 79 #[.val (.int xa), .val (.int xb), .val (.int xc), .val (.int (own_v0_3_s0 xa)), .val (.int (own_v0_19 xb)), .val (.int (own_v0_27 xc)), .val (.ref ob_5), .val (.ref ob_6), .val (.int (own_v0_73 xa xb xc))] [(.ref ob_6), (.ref ob_5)])) rfl (by rw [hml]; rfl) (argsL := [(.ref ob_5), (.ref ob_6)]) (rest := []) (lenOf own_pd3 rfl) rfl (by show 2 * 0 + _ ≤ _; exact Nat.le_of_eq rfl) (hb hby at_79) (fun _ _ => ⟨rfl, e10, (by decide : 2 + 0 ≤ _), (by decide : 6 + 0 ≤ _)⟩)
  dsimp only [Pt.U, Pt.locs, Pt.cells, Pt.slots] at X11 l11 y11 z11 st11 hQ11
  subst y11 z11
  obtain ⟨rfl, N11q, e11⟩ := hQ11
  have N11 : Fr n0 L11 := l11 ▸ Fr.app N10 N11q
  refine own_go (T' := T11) (f' := (mkF m 82 #[.val (.int xa), .val (.int xb), .val (.int xc), .val (.int (own_v0_3_s0 xa)), .val (.int (own_v0_19 xb)), .val (.int (own_v0_27 xc)), .val (.ref ob_5), .val (.ref ob_6), .val (.int (own_v0_73 xa xb xc))] [(.int (own_ord (own_list1 (own_v0_3_s0 xa) xb (own_v0_19 xb)) (own_list1 (own_v0_3_s0 xa) xc (own_v0_27 xc)) (own_list1 (own_v0_3_s0 xa) xb (own_v0_19 xb)).length 0 0 (0 : Int32)))])) ?_ (st11)
  refine own_go (T' := T11) (f' := (mkF m 84 #[.val (.int xa), .val (.int xb), .val (.int xc), .val (.int (own_v0_3_s0 xa)), .val (.int (own_v0_19 xb)), .val (.int (own_v0_27 xc)), .val (.ref ob_5), .val (.ref ob_6), .val (.int (own_v0_73 xa xb xc))] [(.int (own_v0_73 xa xb xc)), (.int (own_ord (own_list1 (own_v0_3_s0 xa) xb (own_v0_19 xb)) (own_list1 (own_v0_3_s0 xa) xc (own_v0_27 xc)) (own_list1 (own_v0_3_s0 xa) xb (own_v0_19 xb)).length 0 0 (0 : Int32)))])) ?_ (fun _ k => XS.iload X11.here hx rfl (hb hby at_82) rfl  k)
  obtain ⟨_, ⟨T12, L12, rfl, X12, e12, N12⟩, mg12⟩ : own_Goes p.tables e below (fun uu => ∃ (T' : State) (L' : List Loc), uu = T'.setTop (mkF m 92 #[.val (.int xa), .val (.int xb), .val (.int xc), .val (.int (own_v0_3_s0 xa)), .val (.int (own_v0_19 xb)), .val (.int (own_v0_27 xc)), .val (.ref ob_5), .val (.ref ob_6), .val (.int (own_v0_73 xa xb xc))] [(.int (own_v0_84_s0 xa xb xc))]) ∧ Stand p l e room_1 s m #[(.int xa), (.int xb), (.int xc)] below meth c T' L' 2 6 ∧ T'.heap = T6.heap ∧ Fr n0 L') T11 (mkF m 84 #[.val (.int xa), .val (.int xb), .val (.int xc), .val (.int (own_v0_3_s0 xa)), .val (.int (own_v0_19 xb)), .val (.int (own_v0_27 xc)), .val (.ref ob_5), .val (.ref ob_6), .val (.int (own_v0_73 xa xb xc))] [(.int (own_v0_73 xa xb xc)), (.int (own_ord (own_list1 (own_v0_3_s0 xa) xb (own_v0_19 xb)) (own_list1 (own_v0_3_s0 xa) xc (own_v0_27 xc)) (own_list1 (own_v0_3_s0 xa) xb (own_v0_19 xb)).length 0 0 (0 : Int32)))]) := by
    by_cases hc84_13 : (own_ord (own_list1 (own_v0_3_s0 xa) xb (own_v0_19 xb)) (own_list1 (own_v0_3_s0 xa) xc (own_v0_27 xc)) (own_list1 (own_v0_3_s0 xa) xb (own_v0_19 xb)).length 0 0 (0 : Int32)) = (own_v0_73 xa xb xc)
    · refine own_go (T' := T11) (f' := (mkF m 87 #[.val (.int xa), .val (.int xb), .val (.int xc), .val (.int (own_v0_3_s0 xa)), .val (.int (own_v0_19 xb)), .val (.int (own_v0_27 xc)), .val (.ref ob_5), .val (.ref ob_6), .val (.int (own_v0_73 xa xb xc))] [])) ?_ (fun _ k => XS.icmpNo X11.here hx rfl (hb hby at_84) rfl (teq hc84_13).2 k)
      refine own_go (T' := T11) (f' := (mkF m 88 #[.val (.int xa), .val (.int xb), .val (.int xc), .val (.int (own_v0_3_s0 xa)), .val (.int (own_v0_19 xb)), .val (.int (own_v0_27 xc)), .val (.ref ob_5), .val (.ref ob_6), .val (.int (own_v0_73 xa xb xc))] [(.int (1 : Int32))])) ?_ (fun _ k => XS.iconst X11.here hx rfl (hb hby at_87) k)
      refine own_go (T' := T11) (f' := (mkF m 92 #[.val (.int xa), .val (.int xb), .val (.int xc), .val (.int (own_v0_3_s0 xa)), .val (.int (own_v0_19 xb)), .val (.int (own_v0_27 xc)), .val (.ref ob_5), .val (.ref ob_6), .val (.int (own_v0_73 xa xb xc))] [(.int (1 : Int32))])) ?_ (fun _ k => XS.goto X11.here hx rfl (pc0 := 88) (pc' := 92) rfl (hb hby at_88) (by decide) (by decide) k)
      have em14 : (own_v0_84_s0 xa xb xc) = (1 : Int32) := (if_pos hc84_13)
      exact ⟨_, ⟨T11, _, (by rw [em14]), X11, e11, N11⟩, fun _ k => k⟩
    · refine own_go (T' := T11) (f' := (mkF m 91 #[.val (.int xa), .val (.int xb), .val (.int xc), .val (.int (own_v0_3_s0 xa)), .val (.int (own_v0_19 xb)), .val (.int (own_v0_27 xc)), .val (.ref ob_5), .val (.ref ob_6), .val (.int (own_v0_73 xa xb xc))] [])) ?_ (fun _ k => XS.icmpYes X11.here hx rfl (pc0 := 84) (pc' := 91) rfl (hb hby at_84) rfl (feq hc84_13).2 (by decide) (by decide) k)
      refine own_go (T' := T11) (f' := (mkF m 92 #[.val (.int xa), .val (.int xb), .val (.int xc), .val (.int (own_v0_3_s0 xa)), .val (.int (own_v0_19 xb)), .val (.int (own_v0_27 xc)), .val (.ref ob_5), .val (.ref ob_6), .val (.int (own_v0_73 xa xb xc))] [(.int (0 : Int32))])) ?_ (fun _ k => XS.iconst X11.here hx rfl (hb hby at_91) k)
      have em15 : (own_v0_84_s0 xa xb xc) = (0 : Int32) := (if_neg hc84_13)
      exact ⟨_, ⟨T11, _, (by rw [em15]), X11, e11, N11⟩, fun _ k => k⟩
  refine own_go (T' := T12) (f' := (mkF m 92 #[.val (.int xa), .val (.int xb), .val (.int xc), .val (.int (own_v0_3_s0 xa)), .val (.int (own_v0_19 xb)), .val (.int (own_v0_27 xc)), .val (.ref ob_5), .val (.ref ob_6), .val (.int (own_v0_73 xa xb xc))] [(.int (own_v0_84_s0 xa xb xc))])) ?_ (mg12)
  obtain ⟨fs16, hr16, hrun16, hended16, hW16, hsame16⟩ := X12.leave (v := some (.int (own_v0_84_s0 xa xb xc))) (fun h => by rw [Bd.returns] at h; cases h)
  refine ⟨_, ⟨_, hrun16, hended16, _, _, rfl, ?_, ⟨_, rfl⟩, hW16, hsame16.mono (by decide) (by decide)⟩, fun _ k => (own_retZ X12 hx Bd.returns (own_b0_84_s0 xa xb xc) (hb hby at_92) hr16).trans k⟩
  show own_Q0 Z xa xb xc h0 n0 _ T12.heap _
  rw [e12]
  exact ⟨rfl, N12⟩
def own_in (A : List Int32) (i : Nat) : Int := (A.getD i 0).toInt
def own_sorted (A : List Int32) : Prop := ∀ i j, i < j → j < A.length → own_in A i < own_in A j
theorem own_skip_spec (B : List Int32) (v : Int32) : ∀ (f j : Nat), f = B.length - j → j ≤ B.length → j ≤ own_skip B v f j ∧ own_skip B v f j ≤ B.length ∧ (∀ k, j ≤ k → k < own_skip B v f j → own_in B k ≤ v.toInt) ∧ (own_skip B v f j < B.length → v.toInt < own_in B (own_skip B v f j))
  | 0, j, hf, hj => ⟨Nat.le_refl _, hj, fun k h1 h2 => absurd h2 (by simp only [own_skip]; omega), fun h => absurd h (by simp only [own_skip]; omega)⟩
  | f + 1, j, hf, hj => by
    unfold own_skip
    rw [if_pos (by omega)]
    split
    · rename_i q
      exact ⟨Nat.le_refl _, hj, fun k h1 h2 => absurd h2 (by omega), fun _ => own_lt32.mp q⟩
    · rename_i q
      obtain ⟨a, b, c, d⟩ := own_skip_spec B v f (j + 1) (by omega) (by omega)
      refine ⟨by omega, b, fun k h1 h2 => ?_, d⟩
      by_cases e : k = j
      · subst e; rw [own_lt32] at q; show (B.getD k 0).toInt ≤ v.toInt; omega
      · exact c k (by omega) h2
/-- some place of B holds one more than A's i-th -/
def own_hits (A B : List Int32) (i : Nat) : Bool := (List.range B.length).any fun k => decide (own_in B k = own_in A i + 1)
theorem own_hits_iff (A B : List Int32) (i : Nat) : own_hits A B i = true ↔ ∃ k, k < B.length ∧ own_in B k = own_in A i + 1 := by
  simp [own_hits]
def own_cv (A B : List Int32) (i : Nat) : Int32 := if own_hits A B i = true then (1 : Int32) else (0 : Int32)
def own_S (A B : List Int32) : Nat → Nat → Int32
  | 0, _ => 0
  | f + 1, i => own_cv A B i + own_S A B f (i + 1)
theorem own_S_zero (A B : List Int32) : ∀ (f i : Nat), (∀ i', i ≤ i' → i' < i + f → own_hits A B i' = false) → own_S A B f i = 0
  | 0, _, _ => rfl
  | f + 1, i, h => by
    unfold own_S own_cv
    rw [h i (Nat.le_refl _) (by omega), own_S_zero A B f (i + 1) (fun i' h1 h2 => h i' (by omega) (by omega))]; rfl
theorem own_ord_S (A B : List Int32) (SA : own_sorted A) (SB : own_sorted B) : ∀ (f i j : Nat) (cn : Int32), f = A.length - i → i ≤ A.length → j ≤ B.length → (∀ k, k < j → ∀ i', i ≤ i' → i' < A.length → own_in B k ≠ own_in A i' + 1) → own_ord A B f i j cn = cn + own_S A B f i
  | 0, i, j, cn, hf, hi, hj, inv => by simp [own_ord, own_S]
  | f + 1, i, j, cn, hf, hi, hj, inv => by
    obtain ⟨a, b, c, d⟩ := own_skip_spec B (A.getD i 0) (B.length - j) j rfl hj
    generalize hs : own_skip B (A.getD i 0) (B.length - j) j = t at a b c d
    have le : ∀ i', i ≤ i' → i' < A.length → own_in A i ≤ own_in A i' := fun i' h1 h2 => by
      by_cases e : i = i'
      · subst e; exact Int.le_refl _
      · exact Int.le_of_lt (SA i i' (by omega) h2)
    have inv2 : ∀ k, k < t → ∀ i', i ≤ i' → i' < A.length → own_in B k ≠ own_in A i' + 1 := fun k hk i' h1 h2 => by
      by_cases e : k < j
      · exact inv k e i' h1 h2
      · have := c k (by omega) hk
        have := le i' h1 h2
        have e2 : own_in A i = (A.getD i 0).toInt := rfl
        omega
    unfold own_ord own_S
    rw [hs]
    split
    · rename_i q
      have z : ∀ i', i ≤ i' → i' < A.length → own_hits A B i' = false := fun i' h1 h2 => by
        rw [← Bool.not_eq_true, own_hits_iff]
        rintro ⟨k, hk, e⟩
        exact inv2 k (by omega) i' h1 h2 e
      have zz : own_cv A B i + own_S A B f (i + 1) = 0 := own_S_zero A B (f + 1) i (fun i' h1 h2 => z i' h1 (by omega))
      rw [zz]; simp
    · rename_i q
      have dt := d (by omega)
      have e2 : own_in A i = (A.getD i 0).toInt := rfl
      have eb : own_in B t = (B.getD t 0).toInt := rfl
      have rg := own_rng (B.getD t 0)
      have ra := own_rng (A.getD i 0)
      have e1 : (1 : Int32).toInt = 1 := rfl
      have ad := own_add_ok (x := A.getD i 0) (y := (1 : Int32)) (by omega) (by omega)
      rw [own_ord_S A B SA SB f (i + 1) t _ (by omega) (by omega) b (fun k hk i' h1 h2 => inv2 k hk i' (by omega) h2)]
      have ecv : own_cv A B i = if B.getD t 0 = A.getD i 0 + (1 : Int32) then (1 : Int32) else (0 : Int32) := by
        unfold own_cv
        by_cases g : B.getD t 0 = A.getD i 0 + (1 : Int32)
        · rw [if_pos g, if_pos]
          rw [own_hits_iff]
          exact ⟨t, by omega, by rw [own_eq32] at g; omega⟩
        · rw [if_neg g, if_neg]
          rw [own_hits_iff]
          rintro ⟨k, hk, e⟩
          rw [own_eq32] at g
          by_cases k1 : k < t
          · exact inv2 k k1 i (Nat.le_refl _) (by omega) e
          · by_cases k2 : k = t
            · subst k2; omega
            · have := SB t k (by omega) hk; omega
      rw [ecv]
      split
      · rw [Int32.add_assoc]
      · simp
theorem own_hit_eq (A B : List Int32) (na nb : Int32) (i j : Nat) (ha : na.toInt = A.length) (hb : nb.toInt = B.length) (hi : i < 3) (hj : j < 3) : own_f2 (Int32.ofNat i) (Int32.ofNat j) na A nb B = if (i < A.length ∧ j < B.length ∧ own_in B j = own_in A i + 1) then (1 : Int32) else (0 : Int32) := by
  unfold own_f2 own_v2_25_s0
  rw [own_at_ofNat (show i < 2 ^ 31 by omega), own_at_ofNat (show j < 2 ^ 31 by omega)]
  have r1 := own_rng (A.getD i 0)
  have r2 := own_rng (B.getD j 0)
  have e1 : (1 : Int64).toInt = 1 := rfl
  have ea := Jvm.Kit.i64_of_i32 (A.getD i 0)
  have eb := Jvm.Kit.i64_of_i32 (B.getD j 0)
  have ad : ((A.getD i 0).toInt64 + (1 : Int64)).toInt = (A.getD i 0).toInt + 1 := by rw [Jvm.Kit.i64_add (by omega) (by omega), ea, e1]
  have p1 : (Int32.ofNat i < na) ↔ i < A.length := by rw [own_lt32, own_ofNat_toInt (by omega), ha]; omega
  have p2 : (Int32.ofNat j < nb) ↔ j < B.length := by rw [own_lt32, own_ofNat_toInt (by omega), hb]; omega
  have p3 : (lcmpW ((A.getD i 0).toInt64 + (1 : Int64)) ((B.getD j 0).toInt64) = (0 : Int32)) ↔ own_in B j = own_in A i + 1 := by
    rw [lw_eq, ← Int64.toInt_inj, ad, eb]
    show _ ↔ (B.getD j 0).toInt = (A.getD i 0).toInt + 1
    omega
  by_cases h1 : i < A.length
  · by_cases h2 : j < B.length
    · by_cases h3 : own_in B j = own_in A i + 1
      · rw [if_pos (p1.mpr h1), if_pos (p2.mpr h2), if_pos (p3.mpr h3), if_pos ⟨h1, h2, h3⟩]
      · rw [if_pos (p1.mpr h1), if_pos (p2.mpr h2), if_neg (mt p3.mp h3), if_neg (fun z => h3 z.2.2)]
    · rw [if_pos (p1.mpr h1), if_neg (mt p2.mp h2), if_neg (fun z => h2 z.2.1)]
  · rw [if_neg (mt p1.mp h1), if_neg (fun z => h1 z.1)]
theorem own_row_eq (A B : List Int32) (na nb : Int32) (i : Nat) (SB : own_sorted B) (ha : na.toInt = A.length) (hb : nb.toInt = B.length) (hB : B.length ≤ 3) (hi : i < 3) : own_f3 (Int32.ofNat i) na A nb B = if i < A.length then own_cv A B i else 0 := by
  have h0 := own_hit_eq A B na nb i 0 ha hb hi (by decide)
  have h1 := own_hit_eq A B na nb i 1 ha hb hi (by decide)
  have h2 := own_hit_eq A B na nb i 2 ha hb hi (by decide)
  show own_f2 (Int32.ofNat i) (Int32.ofNat 0) na A nb B + own_f2 (Int32.ofNat i) (Int32.ofNat 1) na A nb B + own_f2 (Int32.ofNat i) (Int32.ofNat 2) na A nb B = _
  rw [h0, h1, h2]
  unfold own_cv
  have s01 : 1 < B.length → own_in B 0 < own_in B 1 := fun h => SB 0 1 (by decide) h
  have s12 : 2 < B.length → own_in B 1 < own_in B 2 := fun h => SB 1 2 (by decide) h
  have hh : (own_hits A B i = true) ↔ ((0 < B.length ∧ own_in B 0 = own_in A i + 1) ∨ (1 < B.length ∧ own_in B 1 = own_in A i + 1) ∨ (2 < B.length ∧ own_in B 2 = own_in A i + 1)) := by
    rw [own_hits_iff]
    constructor
    · rintro ⟨k, hk, e⟩
      have : k = 0 ∨ k = 1 ∨ k = 2 := by omega
      rcases this with rfl | rfl | rfl
      · exact Or.inl ⟨hk, e⟩
      · exact Or.inr (Or.inl ⟨hk, e⟩)
      · exact Or.inr (Or.inr ⟨hk, e⟩)
    · rintro (⟨h, e⟩ | ⟨h, e⟩ | ⟨h, e⟩)
      · exact ⟨0, h, e⟩
      · exact ⟨1, h, e⟩
      · exact ⟨2, h, e⟩
  by_cases hA : i < A.length
  · rw [if_pos hA]
    by_cases m0 : 0 < B.length ∧ own_in B 0 = own_in A i + 1
    · rw [if_pos ⟨hA, m0⟩, if_neg (fun z => by have := s01 z.2.1; omega), if_neg (fun z => by have := s01 (by omega); have := s12 z.2.1; omega), if_pos (hh.mpr (Or.inl m0))]; decide
    · rw [if_neg (fun z => m0 z.2)]
      by_cases m1 : 1 < B.length ∧ own_in B 1 = own_in A i + 1
      · rw [if_pos ⟨hA, m1⟩, if_neg (fun z => by have := s12 z.2.1; omega), if_pos (hh.mpr (Or.inr (Or.inl m1)))]; decide
      · rw [if_neg (fun z => m1 z.2)]
        by_cases m2 : 2 < B.length ∧ own_in B 2 = own_in A i + 1
        · rw [if_pos ⟨hA, m2⟩, if_pos (hh.mpr (Or.inr (Or.inr m2)))]; decide
        · rw [if_neg (fun z => m2 z.2), if_neg (fun z => (hh.mp z).elim m0 (fun y => y.elim m1 m2))]; decide
  · rw [if_neg hA, if_neg (fun z => hA z.1), if_neg (fun z => hA z.1), if_neg (fun z => hA z.1)]; decide
theorem own_total (A B : List Int32) (na nb : Int32) (SA : own_sorted A) (SB : own_sorted B) (ha : na.toInt = A.length) (hb : nb.toInt = B.length) (hA : A.length ≤ 3) (hB : B.length ≤ 3) :
    own_ord A B A.length 0 0 (0 : Int32) = own_f3 (0 : Int32) na A nb B + own_f3 (1 : Int32) na A nb B + own_f3 (2 : Int32) na A nb B := by
  have r0 := own_row_eq A B na nb 0 SB ha hb hB (by decide)
  have r1 := own_row_eq A B na nb 1 SB ha hb hB (by decide)
  have r2 := own_row_eq A B na nb 2 SB ha hb hB (by decide)
  rw [show (0 : Int32) = Int32.ofNat 0 from rfl, show (1 : Int32) = Int32.ofNat 1 from rfl, show (2 : Int32) = Int32.ofNat 2 from rfl, r0, r1, r2]
  rw [own_ord_S A B SA SB A.length 0 0 _ (by omega) (Nat.zero_le _) (Nat.zero_le _) (fun k hk => absurd hk (Nat.not_lt_zero _))]
  have : A.length = 0 ∨ A.length = 1 ∨ A.length = 2 ∨ A.length = 3 := by omega
  rcases this with h | h | h | h <;> rw [h]
  · simp [own_S]
  · simp [own_S]
  · simp [own_S]
  · simp [own_S, Int32.add_assoc]

theorem own_c4 (y : Int32) : (y &&& (3 : Int32)) = 0 ∨ (y &&& (3 : Int32)) = 1 ∨ (y &&& (3 : Int32)) = 2 ∨ (y &&& (3 : Int32)) = 3 := by
  have e := own_and3 y
  have q : y.toInt % 4 = 0 ∨ y.toInt % 4 = 1 ∨ y.toInt % 4 = 2 ∨ y.toInt % 4 = 3 := by omega
  rcases q with q | q | q | q <;> rw [q] at e
  · exact Or.inl (own_eq32.mpr e)
  · exact Or.inr (Or.inl (own_eq32.mpr e))
  · exact Or.inr (Or.inr (Or.inl (own_eq32.mpr e)))
  · exact Or.inr (Or.inr (Or.inr (own_eq32.mpr e)))
theorem own_vals (b s : Int32) (hb : b.toInt ≤ 2147483632) : (b + (s &&& (7 : Int32))).toInt < (own_v1_22 b s).toInt ∧ (own_v1_22 b s).toInt < (own_v1_34 b s).toInt := by
  have rb := own_rng b
  have e1 : (1 : Int32).toInt = 1 := rfl
  have e7 := own_and7 s
  have e3 := own_and3 ((s.toUInt32 >>> ((3 : Int32) &&& 31).toUInt32).toInt32)
  have e5 := own_and3 ((s.toUInt32 >>> ((5 : Int32) &&& 31).toUInt32).toInt32)
  have a0 := own_add_ok (x := b) (y := s &&& (7 : Int32)) (by omega) (by omega)
  have a1 := own_add_ok (x := b + (s &&& (7 : Int32))) (y := (1 : Int32)) (by omega) (by omega)
  have a2 : (own_v1_22 b s).toInt = _ := own_add_ok (x := (b + (s &&& (7 : Int32))) + (1 : Int32)) (y := ((s.toUInt32 >>> ((3 : Int32) &&& 31).toUInt32).toInt32) &&& (3 : Int32)) (by omega) (by omega)
  have a3 := own_add_ok (x := own_v1_22 b s) (y := (1 : Int32)) (by omega) (by omega)
  have a4 : (own_v1_34 b s).toInt = _ := own_add_ok (x := (own_v1_22 b s) + (1 : Int32)) (y := ((s.toUInt32 >>> ((5 : Int32) &&& 31).toUInt32).toInt32) &&& (3 : Int32)) (by omega) (by omega)
  omega
theorem own_list_ok (b s n : Int32) (hb : b.toInt ≤ 2147483632) (hn : n = 0 ∨ n = 1 ∨ n = 2 ∨ n = 3) : own_sorted (own_list1 b s n) ∧ n.toInt = (own_list1 b s n).length ∧ (own_list1 b s n).length ≤ 3 := by
  obtain ⟨h1, h2⟩ := own_vals b s hb
  rcases hn with rfl | rfl | rfl | rfl
  · have e : own_list1 b s 0 = [] := rfl
    rw [e]; exact ⟨fun i j h1 h2 => absurd h2 (Nat.not_lt_zero _), rfl, by simp⟩
  · have e : own_list1 b s 1 = [b + (s &&& (7 : Int32))] := rfl
    rw [e]; exact ⟨fun i j h1 h2 => by simp at h2; omega, rfl, by simp⟩
  · have e : own_list1 b s 2 = [b + (s &&& (7 : Int32)), own_v1_22 b s] := rfl
    rw [e]
    refine ⟨fun i j p q => ?_, rfl, by simp⟩
    simp at q
    obtain rfl : i = 0 := by omega
    obtain rfl : j = 1 := by omega
    exact h1
  · have e : own_list1 b s 3 = [b + (s &&& (7 : Int32)), own_v1_22 b s, own_v1_34 b s] := rfl
    rw [e]
    refine ⟨fun i j p q => ?_, rfl, by simp⟩
    simp at q
    have : (i = 0 ∧ j = 1) ∨ (i = 0 ∧ j = 2) ∨ (i = 1 ∧ j = 2) := by omega
    rcases this with ⟨rfl, rfl⟩ | ⟨rfl, rfl⟩ | ⟨rfl, rfl⟩
    · exact h1
    · exact Int.lt_trans h1 h2
    · exact h2
theorem own_plain (xa xb xc : Int32) : (own_f0 xa xb xc) = 1 := by
  have hb : (own_v0_3_s0 xa).toInt ≤ 2147483632 := by
    unfold own_v0_3_s0
    split
    · decide
    · rename_i q; rw [own_lt32, show (2147483632 : Int32).toInt = 2147483632 from rfl] at q; omega
  obtain ⟨SA, ha, hA⟩ := own_list_ok (own_v0_3_s0 xa) xb (own_v0_19 xb) hb (own_c4 _)
  obtain ⟨SB, hbb, hB⟩ := own_list_ok (own_v0_3_s0 xa) xc (own_v0_27 xc) hb (own_c4 _)
  exact if_pos (own_total _ _ (own_v0_19 xb) (own_v0_27 xc) SA SB ha hbb hA hB)

set_option maxRecDepth 65536 in
set_option maxHeartbeats 40000000 in
theorem comes_1 {Post : Tables → Env → Array Value → State → Outcome → State → Prop} (hpost : ∀ tb e args s v u, (limb_1_1.after args s (.returned v) u = true ∧ limb_1_2.after args s (.returned v) u = true ∧ True) → FrameEnd s (.returned v) u (Jvm.fieldLocs frame_1_writes args s ++ Jvm.arrayLocs frame_1_arrays args s ++ Jvm.staticLocs frame_1_statics s) 16 128 → Post tb e args s (.returned v) u) :
    ArmFor flags0 classFile x code maxLocals ret World_1 tables_1 room_1 Calls_1 rest_1 Pre_1 Post := by
  intro l hfl _ _ p e ha hc hk s m args below hf hA hF happ hP
  obtain ⟨hcalls, hrest, hpre⟩ := hP
  obtain ⟨-, -, -, hnamed, -, -, -, hat⟩ := (Spec.applies_iff hf).mp happ
  obtain ⟨hg, hn⟩ := and_e (Cond.before_iff.mp (show (Jvm.Cond.and given_1 narrow_1).before args s = true from hpre))
  obtain ⟨gg1, gg2⟩ := and_e hg
  obtain ⟨gg3, gg4⟩ := and_e gg2
  obtain ⟨gg5, gg6⟩ := and_e gg4
  obtain ⟨w0, w1, w2, rfl⟩ : ∃ w0 w1 w2 : Value, args = #[w0, w1, w2] := by
    have hs : args.size = 3 := by simpa [Cond.value, given_1] using gg1
    obtain ⟨L⟩ := args
    match L, hs with
    | [w0, w1, w2], _ => exact ⟨w0, w1, w2, rfl⟩
  have hw := fun d (hd : d ∈ tables_1) => atoms_spec (ws := Jvm.Cond.code x code maxLocals ret :: tables_1) hat d (List.mem_cons_of_mem _ hd)
  have hfit : Fit s := fun {y c} hc i hi => by
    obtain ⟨ha, rfl⟩ := Array.getElem?_eq_some_iff.mp hc
    have q := List.all_eq_true.mp ((Array.all_eq_true_iff_forall_mem.mp hF) _ (Array.getElem_mem ha)) i (List.mem_range.mpr hi)
    simpa [Array.getElem?_eq_getElem hi] using q
  obtain ⟨i0, ei0⟩ := is_v gg3
  obtain rfl : w0 = (.int i0) := Option.some.inj ei0
  obtain ⟨i1, ei1⟩ := is_v gg5
  obtain rfl : w1 = (.int i1) := Option.some.inj ei1
  obtain ⟨i2, ei2⟩ := is_v gg6
  obtain rfl : w2 = (.int i2) := Option.some.inj ei2
  obtain ⟨n, o, h1, h2, h3, _, L, rfl, ⟨rv, N⟩, hq⟩ := own_rm0 l s _ hw tables_1 i0 i1 i2 s.heap s.heap.size (Nat.le_refl _) p e ha hc hk s m _ below hf ((Spec.applies_iff_loose hf).mp happ).1 ⟨rfl, State.Warmed39.refl s, rfl⟩ trivial
  rw [own_plain] at rv
  subst rv
  refine ⟨n, _, h1, h2, h3, hpost _ _ _ _ _ _ ⟨Cond.after_iff.mpr rfl, Cond.after_iff.mpr (eq_i res_at (Term.int_eval (1)) rfl), trivial⟩ ⟨hq.1, hq.2.1, (hq.2.2.sift fun y hy => Or.inr (N y hy)).mono (by decide) (by decide)⟩⟩
theorem main_1_1 : Claimed_1_1 := comes_1 fun _ _ _ _ _ _ h hF => ⟨h.1, hF⟩
theorem main_1_2 : Claimed_1_2 := comes_1 fun _ _ _ _ _ _ h hF => ⟨h.2.1, hF⟩
end Jvm.Pilot.@@N@@
namespace Jvm.Pilot.@@N@@
open Jvm Jvm.ClassFile Sem Op Lib Jvm.Free Jvm.Stand Jvm.Pilot.@@N@@.Jvm.D
/-! MADE BY PROGRAM (witnessworld.py) out of the Statement's table words and the real class files: 9 classes; the members and pool entries that the words name. The judged class is class 1, her method 1. -/
namespace start1
open Jvm.ClassFile
def u (s : String) : CpInfo := .utf8 (stringToUtf16 s)
/-- a pool by its gaps: so many unusable entries, then the entry; so many at the end -/
def gap : Nat → List CpInfo → List CpInfo
  | 0, r => r
  | n + 1, r => .unusable :: gap n r
def poolList (es : List (Nat × CpInfo)) (last : Nat) : List CpInfo := es.foldr (fun e r => gap e.1 (e.2 :: r)) (gap last [])
def pool (es : List (Nat × CpInfo)) (last : Nat) : Array CpInfo := ⟨poolList es last⟩
def fileOf (pool : Array CpInfo) (this : Nat) (attrs : Array Attribute := #[]) (ms : Array MethodInfo := #[]) (fl : Nat := 33) (sup : Nat := 0) (ifs : Array Nat := #[]) (fds : Array FieldInfo := #[]) : ClassFile where
  minorVersion := 0
  majorVersion := 65
  constantPool := pool
  accessFlags := fl
  thisClass := this
  superClass := sup
  interfaces := ifs
  fields := fds
  methods := ms
  attributes := attrs
def plain (name : String) (sup : Option ClassId) : Class where
  name := name
  kind := .ordinary
  loader := none
  accessFlags := 33
  super := sup
  interfaces := #[]
  cf := none
  fields := #[]
  methods := #[]
  instanceTypes := #[]
  staticTypes := #[]
  resolved := #[]
  callSites := []
  init := .initialized
  statics := none
  mirror := none

def pool0 : Array CpInfo := pool [(5, u "<init>"), (0, u "()V"), (1, .class_ 10), (1, u "java/lang/Object")] 113

def k0m0 : Method := { name := "<init>", desc := "()V", sig := { parameters := [], returnType := none }, accessFlags := 1, code := none }
/-- java/lang/Object -/
def k0 : Class := { plain "java/lang/Object" none with
  accessFlags := 33
  interfaces := #[]
  cf := some (fileOf pool0 8 #[] #[{ accessFlags := 1, nameIndex := 5, descriptorIndex := 6, attributes := #[] }] 33 0 #[] #[])
  fields := #[]
  methods := #[k0m0]
  instanceTypes := #[]
  staticTypes := #[]
  resolved := Array.replicate 124 none
  statics := none }

def pool1 : Array CpInfo := pool [(2, .class_ 4), (1, u "java/lang/Object"), (0, u "<init>"), (0, u "()V"), (2, .integer 2147483632), (0, .methodref 11 12), (0, .class_ 13), (0, .nameAndType 14 15), (0, u "com/example/term_proximity_ranking/termproximityranking/WindowsOrderedPinLaw"), (0, u "build"), (0, u "(III)[I"), (0, .methodref 11 17), (0, .nameAndType 18 19), (0, u "row"), (0, u "([II[I)I"), (0, .methodref 21 22), (0, .class_ 23), (0, .nameAndType 24 25), (0, u "com/example/term_proximity_ranking/termproximityranking/Windows"), (0, u "ordered"), (0, u "([I[I)I"), (0, .methodref 11 27), (0, .nameAndType 28 29), (0, u "hit"), (0, u "([II[II)I"), (2, u "law"), (0, u "(III)Z")] 5

def k1m0 : Method := { name := "<init>", desc := "()V", sig := { parameters := [], returnType := none }, accessFlags := 2, code := none }
def k1c1 : Code := { maxStack := 4, maxLocals := 9, code := code, exceptionTable := #[], attributes := #[] }
def k1m1 : Method := { name := "law", desc := "(III)Z", sig := { parameters := [.int, .int, .int], returnType := some .boolean }, accessFlags := 9, code := some k1c1 }
def k1c2 : Code := { maxStack := 3, maxLocals := 7, code := method_3_code, exceptionTable := #[], attributes := #[] }
def k1m2 : Method := { name := "build", desc := "(III)[I", sig := { parameters := [.int, .int, .int], returnType := some (.array .int) }, accessFlags := 10, code := some k1c2 }
def k1c3 : Code := { maxStack := 5, maxLocals := 3, code := method_4_code, exceptionTable := #[], attributes := #[] }
def k1m3 : Method := { name := "row", desc := "([II[I)I", sig := { parameters := [(.array .int), .int, (.array .int)], returnType := some .int }, accessFlags := 10, code := some k1c3 }
def k1c4 : Code := { maxStack := 4, maxLocals := 4, code := method_5_code, exceptionTable := #[], attributes := #[] }
def k1m4 : Method := { name := "hit", desc := "([II[II)I", sig := { parameters := [(.array .int), .int, (.array .int), .int], returnType := some .int }, accessFlags := 10, code := some k1c4 }
/-- com/example/term_proximity_ranking/termproximityranking/WindowsOrderedPinLaw -/
def k1 : Class := { plain "com/example/term_proximity_ranking/termproximityranking/WindowsOrderedPinLaw" (some 0) with
  accessFlags := 49
  interfaces := #[]
  cf := some (fileOf pool1 11 #[] #[{ accessFlags := 2, nameIndex := 5, descriptorIndex := 6, attributes := #[] }, { accessFlags := 9, nameIndex := 32, descriptorIndex := 33, attributes := #[] }, { accessFlags := 10, nameIndex := 14, descriptorIndex := 15, attributes := #[] }, { accessFlags := 10, nameIndex := 18, descriptorIndex := 19, attributes := #[] }, { accessFlags := 10, nameIndex := 28, descriptorIndex := 29, attributes := #[] }] 49 2 #[] #[])
  fields := #[]
  methods := #[k1m0, k1m1, k1m2, k1m3, k1m4]
  instanceTypes := #[]
  staticTypes := #[]
  resolved := Array.replicate 39 none
  statics := none }

def pool2 : Array CpInfo := pool [(2, .class_ 4), (1, u "java/lang/Object"), (0, u "<init>"), (0, u "()V"), (6, .class_ 14), (0, u "com/example/term_proximity_ranking/termproximityranking/Windows"), (2, u "ordered"), (0, u "([I[I)I")] 7

def k2m0 : Method := { name := "<init>", desc := "()V", sig := { parameters := [], returnType := none }, accessFlags := 2, code := none }
def k2c1 : Code := { maxStack := 3, maxLocals := 8, code := prog_27_method_2_code, exceptionTable := #[], attributes := #[] }
def k2m1 : Method := { name := "ordered", desc := "([I[I)I", sig := { parameters := [(.array .int), (.array .int)], returnType := some .int }, accessFlags := 8, code := some k2c1 }
/-- com/example/term_proximity_ranking/termproximityranking/Windows -/
def k2 : Class := { plain "com/example/term_proximity_ranking/termproximityranking/Windows" (some 0) with
  accessFlags := 48
  interfaces := #[]
  cf := some (fileOf pool2 13 #[] #[{ accessFlags := 2, nameIndex := 5, descriptorIndex := 6, attributes := #[] }, { accessFlags := 8, nameIndex := 17, descriptorIndex := 18, attributes := #[] }] 48 2 #[] #[])
  fields := #[]
  methods := #[k2m0, k2m1]
  instanceTypes := #[]
  staticTypes := #[]
  resolved := Array.replicate 26 none
  statics := none }

def pool3 : Array CpInfo := pool [(1, u "java/lang/Cloneable"), (0, .class_ 1), (0, u "java/lang/Object"), (0, .class_ 3)] 3

/-- java/lang/Cloneable -/
def k3 : Class := { plain "java/lang/Cloneable" (some 0) with
  accessFlags := 1537
  interfaces := #[]
  cf := some (fileOf pool3 2 #[] #[] 1537 4 #[] #[])
  fields := #[]
  methods := #[]
  instanceTypes := #[]
  staticTypes := #[]
  resolved := Array.replicate 8 none
  statics := none }

def pool4 : Array CpInfo := pool [(1, u "java/io/Serializable"), (0, .class_ 1), (0, u "java/lang/Object"), (0, .class_ 3)] 3

/-- java/io/Serializable -/
def k4 : Class := { plain "java/io/Serializable" (some 0) with
  accessFlags := 1537
  interfaces := #[]
  cf := some (fileOf pool4 2 #[] #[] 1537 4 #[] #[])
  fields := #[]
  methods := #[]
  instanceTypes := #[]
  staticTypes := #[]
  resolved := Array.replicate 8 none
  statics := none }

/-- the primitive byte -/
def k5 : Class := { plain "byte" none with kind := .primitive 'B', accessFlags := 0x411 }
/-- [B -/
def k6 : Class := { plain "[B" (some 0) with kind := .array 5 .byte, interfaces := #[3, 4], accessFlags := 1041 }

/-- the primitive int -/
def k7 : Class := { plain "int" none with kind := .primitive 'I', accessFlags := 0x411 }
/-- [I -/
def k8 : Class := { plain "[I" (some 0) with kind := .array 7 .int, interfaces := #[3, 4], accessFlags := 1041 }

def heap : Heap := #[]
def classes : Array Class := #[k0, k1, k2, k3, k4, k5, k6, k7, k8]
def interned : List (Array UInt16 × Addr) := []
def slotsUsed : Nat := 0
def theMethod : MethodId := ⟨1, 1⟩
def args0 : Array Value := #[.int 10, .int 300, .int 400]
def aboutOver (below : List Frame) : State where
  vm := { classes := classes, interned := interned.toArray }
  heap := heap
  slotsUsed := slotsUsed
  threads := #[{ frames := .invoking theMethod args0 :: below }]
def below0 : List Frame := [.native { method := ⟨0, 0⟩, args := #[] }]
def about1 : State := aboutOver below0
def p0 : Program := .bare "" "" ""
def e0 : Env := launch0.env 0 0 0
theorem w_frames : about1.frames = Frame.invoking theMethod args0 :: below0 := rfl
set_option maxRecDepth 65536 in
theorem w_args : argsFit about1.vm theMethod args0 = true := by decide +kernel
set_option maxRecDepth 65536 in
theorem w_heap : heapFits about1 = true := by decide +kernel
set_option maxRecDepth 65536 in
theorem w_runnable : about1.curStatus? = some .runnable := by decide +kernel
set_option maxRecDepth 65536 in
theorem w_alone : about1.alone = true := by decide +kernel
set_option maxRecDepth 65536 in
theorem w_named : about1.methodNamed? x = some theMethod := by decide +kernel
set_option maxRecDepth 65536 in
theorem w_hears : about1.hears theMethod below0 = true := by decide +kernel
set_option maxRecDepth 65536 in
theorem w_ripe : about1.ripe theMethod args0 below0 = true := by decide +kernel
theorem w_running : about1.status = .running := rfl
set_option maxRecDepth 65536 in
theorem w_room : about1.hasRoom e0.platform room_1 = true :=
  launch0.hasRoom_least _ room_1 (by decide +kernel) (by decide +kernel) (by decide +kernel) (by decide +kernel) (by decide +kernel) (by decide +kernel)
theorem allAtoms_all (ts : List Jvm.Cond) (a : Array Jvm.Value) (st : Jvm.State) : (allAtoms ts).before a st = ts.all (fun c => c.before a st) := by
  induction ts with
  | nil => rfl
  | cons c t ih =>
    show (Jvm.Cond.and c (allAtoms t)).before a st = _
    rw [Jvm.Cond.before_and, ih, List.all_cons]
def words1 : List Jvm.Cond := Jvm.Cond.code x code maxLocals ret :: tables_1
/-- a 'code' word, met by the world's own term for the bytes: nothing is compared byte by byte -/
theorem code_word {y : MethodName} {bytes : ByteArray} {mx : Nat} {rt : Option FieldType} {a : Array Value} {s : State} {m : MethodId} {meth : Method} {c : Code} (h1 : s.methodNamed? y = some m) (h2 : s.vm.method? m = some meth) (h3 : meth.code = some c) (h4 : c.code = bytes)
    (h5 : (c.maxLocals == mx && c.exceptionTable.isEmpty && decide (c.maxStack ≤ mostOperands) && decide (meth.sig.returnType = rt) && !meth.locks && decide (parseMethodDescriptor y.desc = some meth.sig)) = true) : (Jvm.Cond.code y bytes mx rt).before a s = true := by
  simp only [Bool.and_eq_true, beq_iff_eq, Bool.not_eq_true', decide_eq_true_eq] at h5
  obtain ⟨⟨⟨⟨⟨g1, g2⟩, g3⟩, g4⟩, g5⟩, g6⟩ := h5
  simp [Cond.before, Cond.holds, Cond.value, h1, h2, h3, h4, g1, g2, g3, g4, g5, g6]
def isCode : Jvm.Cond → Bool
  | .code _ _ _ _ => true
  | _ => false
theorem all_split {L : List Jvm.Cond} {P : Jvm.Cond → Bool} (h1 : L.all (fun c => isCode c || P c) = true) (h2 : ∀ c ∈ L.filter isCode, P c = true) : L.all P = true := by
  refine List.all_eq_true.mpr fun c hc => ?_
  have h := List.all_eq_true.mp h1 c hc
  rcases Bool.eq_false_or_eq_true (isCode c) with hi | hi
  · exact h2 c (List.mem_filter.mpr ⟨hc, hi⟩)
  · simpa [hi] using h
set_option maxRecDepth 65536 in
theorem w_c0 : (Jvm.Cond.code x code maxLocals ret).before args0 about1 = true := code_word (m := ⟨1, 1⟩) (meth := k1m1) (c := k1c1) (by decide +kernel) rfl rfl rfl (by decide +kernel)
set_option maxRecDepth 65536 in
theorem w_c1 : (Jvm.Cond.code ({ cls := "com/example/term_proximity_ranking/termproximityranking/WindowsOrderedPinLaw", name := "build", desc := "(III)[I" } : Jvm.MethodName) method_3_code (7 : Nat) (Option.some (Jvm.ClassFile.FieldType.array Jvm.ClassFile.FieldType.int))).before args0 about1 = true := code_word (m := ⟨1, 2⟩) (meth := k1m2) (c := k1c2) (by decide +kernel) rfl rfl rfl (by decide +kernel)
set_option maxRecDepth 65536 in
theorem w_c2 : (Jvm.Cond.code ({ cls := "com/example/term_proximity_ranking/termproximityranking/WindowsOrderedPinLaw", name := "row", desc := "([II[I)I" } : Jvm.MethodName) method_4_code (3 : Nat) (Option.some Jvm.ClassFile.FieldType.int)).before args0 about1 = true := code_word (m := ⟨1, 3⟩) (meth := k1m3) (c := k1c3) (by decide +kernel) rfl rfl rfl (by decide +kernel)
set_option maxRecDepth 65536 in
theorem w_c3 : (Jvm.Cond.code ({ cls := "com/example/term_proximity_ranking/termproximityranking/WindowsOrderedPinLaw", name := "hit", desc := "([II[II)I" } : Jvm.MethodName) method_5_code (4 : Nat) (Option.some Jvm.ClassFile.FieldType.int)).before args0 about1 = true := code_word (m := ⟨1, 4⟩) (meth := k1m4) (c := k1c4) (by decide +kernel) rfl rfl rfl (by decide +kernel)
set_option maxRecDepth 65536 in
theorem w_c4 : (Jvm.Cond.code ({ cls := "com/example/term_proximity_ranking/termproximityranking/Windows", name := "ordered", desc := "([I[I)I" } : Jvm.MethodName) prog_27_method_2_code (8 : Nat) (Option.some Jvm.ClassFile.FieldType.int)).before args0 about1 = true := code_word (m := ⟨2, 1⟩) (meth := k2m1) (c := k2c1) (by decide +kernel) rfl rfl rfl (by decide +kernel)
def codes1 : List Jvm.Cond := [Jvm.Cond.code x code maxLocals ret, Jvm.Cond.code ({ cls := "com/example/term_proximity_ranking/termproximityranking/WindowsOrderedPinLaw", name := "build", desc := "(III)[I" } : Jvm.MethodName) method_3_code (7 : Nat) (Option.some (Jvm.ClassFile.FieldType.array Jvm.ClassFile.FieldType.int)), Jvm.Cond.code ({ cls := "com/example/term_proximity_ranking/termproximityranking/WindowsOrderedPinLaw", name := "row", desc := "([II[I)I" } : Jvm.MethodName) method_4_code (3 : Nat) (Option.some Jvm.ClassFile.FieldType.int), Jvm.Cond.code ({ cls := "com/example/term_proximity_ranking/termproximityranking/WindowsOrderedPinLaw", name := "hit", desc := "([II[II)I" } : Jvm.MethodName) method_5_code (4 : Nat) (Option.some Jvm.ClassFile.FieldType.int), Jvm.Cond.code ({ cls := "com/example/term_proximity_ranking/termproximityranking/Windows", name := "ordered", desc := "([I[I)I" } : Jvm.MethodName) prog_27_method_2_code (8 : Nat) (Option.some Jvm.ClassFile.FieldType.int)]
set_option maxRecDepth 65536 in
theorem codes_eq : words1.filter isCode = codes1 := rfl
theorem w_codes : ∀ c ∈ words1.filter isCode, c.before args0 about1 = true := by
  rw [codes_eq]
  intro c hc
  simp only [codes1, List.mem_cons, List.not_mem_nil, or_false] at hc
  rcases hc with rfl | rfl | rfl | rfl | rfl
  · exact w_c0
  · exact w_c1
  · exact w_c2
  · exact w_c3
  · exact w_c4
set_option maxRecDepth 65536 in
theorem w_t1 : words1.all (fun c => isCode c || c.before args0 about1) = true := by decide +kernel
theorem w_tables : (allAtoms (Jvm.Cond.code x code maxLocals ret :: tables_1)).before args0 about1 = true := by
  rw [allAtoms_all]
  show words1.all (fun c => c.before args0 about1) = true
  refine all_split ?_ w_codes
  rw [w_t1]
set_option maxRecDepth 65536 in
theorem w_case : (Jvm.Cond.and given_1 narrow_1).before args0 about1 = true := by decide +kernel
theorem w_applies : (headSpec (Jvm.Cond.code x code maxLocals ret :: tables_1) room_1).applies x e0.platform about1 = true :=
  (Spec.applies_iff w_frames).mpr ⟨w_running, w_runnable, w_alone, w_named, w_hears, w_ripe, w_room, w_tables⟩
theorem atStart : AtStart classFile x code maxLocals ret World_1 tables_1 room_1 Calls_1 rest_1 Pre_1 launch0 p0 e0 about1 theMethod args0 below0 :=
  ⟨lists_1, trivial, launch0.admits_env _ _ _, launch0.least_env, fairChoices_fair.cas, fairChoices_fair.clock, w_frames, w_args, w_heap, w_applies, trivial, trivial, w_case⟩
end start1
theorem witness_1 : WitnessClaimed_1 := ⟨start1.p0, start1.e0, start1.about1, start1.theMethod, start1.args0, start1.below0, start1.atStart⟩
end Jvm.Pilot.@@N@@
