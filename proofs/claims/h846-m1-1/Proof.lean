import JvmDerived
import JvmDerived.Pilot.@@N@@Statement
import JvmDerived.Pilot.@@N@@Code
set_option linter.unusedVariables false
set_option linter.unusedSimpArgs false
@@BLOCK:NumsL.lean.txt@@
namespace Jvm.RoadKit
open Sem ClassFile Op Lib Jvm.Stand Jvm.Free Jvm.LawKit
section New
variable {p : Program} {l : Launch} {e : Env} {R : Room} {s : State} {m : MethodId} {args : Array Value} {below : List Frame} {meth : Method} {c : Code} {T : State} {locs : List Loc} {cells slots : Nat}
theorem retI (X : Stand p l e R s m args below meth c T locs cells slots) (hx : p.tables.exec = Jvm.exec) {pc : Nat} {Ls : Array Slot} {z : Int32} {rest : List Value} (hret : meth.sig.returnType = some .int) (hd : decode c.code pc = .ok (.ireturn, 1)) {fs : List Frame}
    (hl : ∀ (f : JFrame) (acts : List Action), f.method = m → f.locked = none → f.entered = [] → (doReturn e (T.setTop f) acts (some (.int z))).1 = T.setFrames fs) : Steps p.tables e below (T.setTop (mkF m pc Ls (.int z :: rest))) (T.setFrames fs) := by
  have hm' : T.vm.method? m = some meth := X.method'
  have hn : narrow .int (.int z) = .int z := rfl
  show Steps p.tables e below (T.setTop { method := m, pc := pc, locals := Ls, stack := _ :: rest, locked := none }) _
  jvm_step X.here [X.here.top, hx, hd, hm', hret, hn]
  first | (intro acts; rw [hl _ acts rfl rfl rfl]) | rw [hl _ _ rfl rfl rfl]
  exact Steps.refl _
def own_irem (x y : Int32) : Int32 := x - x / y * y
def own_lrem (x y : Int64) : Int64 := x - x / y * y
theorem own_retZ (X : Stand p l e R s m args below meth c T locs cells slots) (hx : p.tables.exec = Jvm.exec) {pc : Nat} {Ls : Array Slot} {z : Int32} {rest : List Value} (hret : meth.sig.returnType = some .boolean) (hz : z &&& 1 = z) (hd : decode c.code pc = .ok (.ireturn, 1)) {fs : List Frame}
    (hl : ∀ (f : JFrame) (acts : List Action), f.method = m → f.locked = none → f.entered = [] → (doReturn e (T.setTop f) acts (some (.int z))).1 = T.setFrames fs) : Steps p.tables e below (T.setTop (mkF m pc Ls (.int z :: rest))) (T.setFrames fs) :=
  retN X hx (t := .boolean) hret (by simp) hd (by rw [show nar .boolean z = z from hz]; exact hl)
theorem own_ite_bool {q : Prop} [Decidable q] {a b : Int32} (ha : a &&& 1 = a) (hb : b &&& 1 = b) : (if q then a else b) &&& 1 = (if q then a else b) := by split <;> assumption
theorem own_retJ (X : Stand p l e R s m args below meth c T locs cells slots) (hx : p.tables.exec = Jvm.exec) {pc : Nat} {Ls : Array Slot} {z : Int64} {rest : List Value} (hret : meth.sig.returnType = some .long) (hd : decode c.code pc = .ok (.lreturn, 1)) {fs : List Frame}
    (hl : ∀ (f : JFrame) (acts : List Action), f.method = m → f.locked = none → f.entered = [] → (doReturn e (T.setTop f) acts (some (.long z))).1 = T.setFrames fs) : Steps p.tables e below (T.setTop (mkF m pc Ls (.long z :: rest))) (T.setFrames fs) := by
  have hm' : T.vm.method? m = some meth := X.method'
  show Steps p.tables e below (T.setTop { method := m, pc := pc, locals := Ls, stack := _ :: rest, locked := none }) _
  jvm_step X.here [X.here.top, hx, hd, hm', hret, narrow]
  first | (intro acts; rw [hl _ acts rfl rfl rfl]) | rw [hl _ _ rfl rfl rfl]
  exact Steps.refl _
/-- the run goes from here to a state of which P holds -/
def own_Goes (tb : Tables) (e : Env) (below : List Frame) (P : State → Prop) (T : State) (f : JFrame) : Prop :=
  ∃ u, P u ∧ ∀ t, Steps tb e below u t → Steps tb e below (T.setTop f) t
theorem own_go {tb : Tables} {P : State → Prop} {T T' : State} {f f' : JFrame} (k : own_Goes tb e below P T' f') (h : ∀ t, Steps tb e below (T'.setTop f') t → Steps tb e below (T.setTop f) t) : own_Goes tb e below P T f := by
  obtain ⟨u, hu, hk⟩ := k
  exact ⟨u, hu, fun t q => h t (hk t q)⟩
theorem own_out {tb : Tables} {Q : Outcome → State → Prop} {T : State} {f : JFrame} (k : own_Goes tb e below (fun u => ∃ o, u.status = .running ∧ Ended u below o ∧ Q o u) T f) :
    ∃ s₂ o, Steps tb e below (T.setTop f) s₂ ∧ s₂.status = .running ∧ Ended s₂ below o ∧ Q o s₂ := by
  obtain ⟨u, ⟨o, h1, h2, h3⟩, hk⟩ := k
  exact ⟨u, o, hk u (Steps.refl _), h1, h2, h3⟩
theorem own_lsw {tb : Tables} [Ours tb] {T target : State} {g : JFrame} (h : At T m c below) (hx : tb.exec = Jvm.exec) (hg : g.method = m) {dflt : Int} {pairs : Array (Int × Int)} {len : Nat} {o : Int} {pc0 pc' : Nat} (hpc : g.pc = pc0) (hd : decode c.code g.pc = .ok (.lookupswitch dflt pairs, len)) {i : Int32} {rest : List Value} (hs : g.stack = .int i :: rest)
    (hord : (pairs.toList.zip (pairs.toList.drop 1)).all (fun (a, next) => a.1 < next.1) = true) (hoff : lookupswitch.offset pairs.toList dflt i.toInt = o) (ho : 0 ≤ (pc0 : Int) + o) (hp : ((pc0 : Int) + o).toNat = pc')
    (hr : Steps tb e below (T.setTop { g with pc := pc', stack := rest }) target) : Steps tb e below (T.setTop g) target := by
  subst hg hpc hp
  jvm_step h [h.top, hx, hd, hs, hoff, ho, lookupswitch.wp_chain]
  exact ⟨by simpa using hord, hr⟩
theorem own_ne_key {i k : Int32} (h : ¬ i = k) : ¬ (k.toInt = i.toInt) := fun q => h (Int32.toInt_inj.mp q.symm)
theorem own_selP {s : State} {args : Array Value} {y : MethodName} {n : Nat} (wi : (Cond.instantiable y.cls n).before args s = true) (hp : s.PrivateAt y) (hi : (Cond.instanceMethod y).before args s = true) (hy : y.cls ≠ "java/lang/invoke/MethodHandle" ∧ y.cls ≠ "java/lang/invoke/VarHandle") : (Cond.selects y.cls y y).before args s = true := by
  obtain ⟨c, k, h1, h2, -, h3, -⟩ := Cond.instantiable_spec wi
  simp only [Bool.or_eq_false_iff] at h3
  exact selects_self_of_private h1 h2 h3.1 hp hi hy
end New
end Jvm.RoadKit
namespace Jvm.RoadKit
open Sem ClassFile Op Lib Jvm.Stand Jvm.Free Jvm.LawKit
theorem own_lt32 {x y : Int32} : x < y ↔ x.toInt < y.toInt := Int32.lt_iff_toInt_lt
theorem own_eq32 {x y : Int32} : x = y ↔ x.toInt = y.toInt := (Int32.toInt_inj).symm
theorem own_mod32 (x y : Int32) : (own_irem x y).toInt = x.toInt.tmod y.toInt := by
  rw [show own_irem x y = x % y from irem_eq_mod x y]; exact Int32.toInt_mod x y
theorem own_pos31 (x : Int32) : (x &&& (2147483647 : Int32)).toInt = x.toInt % 2147483648 := Jvm.Kit.i32_mask x 2147483647 (k := 31) (by decide) (by decide)
theorem own_rem31 (x : Int32) (y : Int32) (hy : 0 < y.toInt) : (own_irem (x &&& (2147483647 : Int32)) y).toInt = (x.toInt % 2147483648) % y.toInt := by
  rw [own_mod32, own_pos31, Int.tmod_eq_emod_of_nonneg (by omega)]
theorem own_and3 (x : Int32) : (x &&& (3 : Int32)).toInt = x.toInt % 4 := Jvm.Kit.i32_mask x 3 (k := 2) (by decide) (by decide)
theorem own_and7 (x : Int32) : (x &&& (7 : Int32)).toInt = x.toInt % 8 := Jvm.Kit.i32_mask x 7 (k := 3) (by decide) (by decide)
theorem own_and63 (x : Int32) : (x &&& (63 : Int32)).toInt = x.toInt % 64 := Jvm.Kit.i32_mask x 63 (k := 6) (by decide) (by decide)
theorem own_and255 (x : Int32) : (x &&& (255 : Int32)).toInt = x.toInt % 256 := Jvm.Kit.i32_mask x 255 (k := 8) (by decide) (by decide)
theorem own_add_ok {x y : Int32} (h1 : -2147483648 ≤ x.toInt + y.toInt) (h2 : x.toInt + y.toInt < 2147483648) : (x + y).toInt = x.toInt + y.toInt := Jvm.Kit.i32_add (by omega) (by omega)
theorem own_sub_ok {x y : Int32} (h1 : -2147483648 ≤ x.toInt - y.toInt) (h2 : x.toInt - y.toInt < 2147483648) : (x - y).toInt = x.toInt - y.toInt := Jvm.Kit.i32_sub (by omega) (by omega)
theorem own_nat32 {x : Int32} (h : 0 ≤ x.toInt) : (x.toNatClampNeg : Int) = x.toInt := by simp only [Int32.toNatClampNeg]; omega
theorem own_rng (x : Int32) : -2147483648 ≤ x.toInt ∧ x.toInt < 2147483648 := ⟨x.le_toInt, x.toInt_lt⟩
theorem own_m3 (y : Int32) : ¬ (y &&& (3 : Int32)) < (0 : Int32) ∧ (y &&& (3 : Int32)).toNatClampNeg ≤ 3 := by
  have e := own_and3 y
  refine ⟨?_, ?_⟩
  · rw [own_lt32, e, show (0 : Int32).toInt = 0 from rfl]; omega
  · have := own_nat32 (x := y &&& 3) (by omega); omega
end Jvm.RoadKit
namespace Jvm.RoadKit
open Sem ClassFile Op Lib Jvm.Stand Jvm.Free Jvm.LawKit
section OwnArr
variable {p : Program} {l : Launch} {e : Env} {R : Room} {s : State} {m : MethodId} {args : Array Value} {below : List Frame} {meth : Method} {c : Code} {T : State} {locs : List Loc} {cells slots : Nat}
variable {Z : State} {h h' : Heap} {a b : Addr} {sl : Nat} {v : Value} {ws : List Addr} {n : Int32} {L : List Int32} {M : List Int64} {ty : FieldType} {k : ClassId}
/-- an array of ints (bytes, chars): its length and what it holds -/
def own_AI (Z : State) (h : Heap) (a : Addr) (ty : FieldType) (n : Int32) (L : List Int32) : Prop := L.length = n.toNatClampNeg ∧ ∃ k, Arv Z h a k ty n (L.map Value.int) (.int 0)
def own_AJ (Z : State) (h : Heap) (a : Addr) (n : Int32) (M : List Int64) : Prop := M.length = n.toNatClampNeg ∧ ∃ k, Arv Z h a k .long n (M.map Value.long) (.long 0)
theorem own_AI.lt (F : own_AI Z h a ty n L) : a < h.size := by obtain ⟨_, _, A⟩ := F; exact A.lt
theorem own_AJ.lt (F : own_AJ Z h a n M) : a < h.size := by obtain ⟨_, _, A⟩ := F; exact A.lt
theorem own_AI.ext (F : own_AI Z h a ty n L) (E : Ext h h') : own_AI Z h' a ty n L := by obtain ⟨q, k, A⟩ := F; exact ⟨q, k, A.ext E⟩
theorem own_AJ.ext (F : own_AJ Z h a n M) (E : Ext h h') : own_AJ Z h' a n M := by obtain ⟨q, k, A⟩ := F; exact ⟨q, k, A.ext E⟩
theorem own_AI.other (F : own_AI Z h b ty n L) (W : Wr h h' a sl v) (q : b ≠ a) : own_AI Z h' b ty n L := by obtain ⟨r, k, A⟩ := F; exact ⟨r, k, A.other W q⟩
theorem own_AJ.other (F : own_AJ Z h b n M) (W : Wr h h' a sl v) (q : b ≠ a) : own_AJ Z h' b n M := by obtain ⟨r, k, A⟩ := F; exact ⟨r, k, A.other W q⟩
theorem own_AI.keep (F : own_AI Z h a ty n L) (K : Keep h h' ws) (q : a ∉ ws) : own_AI Z h' a ty n L := by obtain ⟨r, k, A⟩ := F; exact ⟨r, k, A.keep K q⟩
theorem own_AJ.keep (F : own_AJ Z h a n M) (K : Keep h h' ws) (q : a ∉ ws) : own_AJ Z h' a n M := by obtain ⟨r, k, A⟩ := F; exact ⟨r, k, A.keep K q⟩
theorem own_AI.new (A : Arr Z h a (newA k ty n) ty) (q : ¬ n < 0) (hd : defaultValue ty = .int 0) : own_AI Z h a ty n (List.replicate n.toNatClampNeg 0) := by
  refine ⟨by simp, k, ?_⟩
  have B := Arv.new A q
  rw [hd] at B
  rw [List.map_replicate]
  exact B.pad (pad_rep [] _ _)
theorem own_AJ.new (A : Arr Z h a (newA k .long n) .long) (q : ¬ n < 0) : own_AJ Z h a n (List.replicate n.toNatClampNeg 0) := by
  refine ⟨by simp, k, ?_⟩
  have B := Arv.new A q
  rw [List.map_replicate]
  exact B.pad (pad_rep [] _ _)
theorem own_getD_int (L : List Int32) (i : Nat) : (L.map Value.int).getD i (.int 0) = .int (L.getD i 0) := by
  simp only [List.getD_eq_getElem?_getD, List.getElem?_map]
  cases L[i]? <;> rfl
theorem own_getD_long (M : List Int64) (i : Nat) : (M.map Value.long).getD i (.long 0) = .long (M.getD i 0) := by
  simp only [List.getD_eq_getElem?_getD, List.getElem?_map]
  cases M[i]? <;> rfl
theorem own_inl {j : Int32} {len : Nat} (q : len = n.toNatClampNeg) (hj : ¬ j < 0 ∧ j < n) : j.toNatClampNeg < len := by
  rw [q]; obtain ⟨q1, q2⟩ := hj
  rw [Int32.lt_iff_toInt_lt] at q1 q2
  have e0 : (0 : Int32).toInt = 0 := rfl
  simp only [Int32.toNatClampNeg] at *; omega
theorem own_ldI (X : Stand p l e R s m args below meth c T locs cells slots) (hx : p.tables.exec = Jvm.exec) (hZ : Z.Warmed39 s.vm) (eT : T.heap = h) (F : own_AI Z h a .int n L) {j : Int32} (hj : ¬ j < 0 ∧ j < n) {g : JFrame} (hg : g.method = m) {rest : List Value} (hs : g.stack = .int j :: .ref a :: rest) (hd : decode c.code g.pc = .ok (.iaload, 1)) :
    ∀ target, Steps p.tables e below (T.setTop { g with pc := g.pc + 1, stack := .int (L.getD j.toNatClampNeg 0) :: rest }) target → Steps p.tables e below (T.setTop g) target := by
  intro target hk
  obtain ⟨q, k, cl, A, r1, S, r3, H, G⟩ := F
  have hin := inb_of S hj
  exact X.iaload hx (j := j) (v := .int (L.getD j.toNatClampNeg 0)) (by rw [eT]; exact A.1) (State.isArrayOf_alike hZ.alike A.2.1) A.2.2 hin (H.at hin (own_getD_int L _)) hg hs hd _ hk
theorem own_ldB (X : Stand p l e R s m args below meth c T locs cells slots) (hx : p.tables.exec = Jvm.exec) (hZ : Z.Warmed39 s.vm) (eT : T.heap = h) (F : own_AI Z h a .byte n L) {j : Int32} (hj : ¬ j < 0 ∧ j < n) {g : JFrame} (hg : g.method = m) {rest : List Value} (hs : g.stack = .int j :: .ref a :: rest) (hd : decode c.code g.pc = .ok (.baload, 1)) :
    ∀ target, Steps p.tables e below (T.setTop { g with pc := g.pc + 1, stack := .int (L.getD j.toNatClampNeg 0) :: rest }) target → Steps p.tables e below (T.setTop g) target := by
  intro target hk
  obtain ⟨q, k, cl, A, r1, S, r3, H, G⟩ := F
  have hin := inb_of S hj
  exact X.baloadBytes hx (j := j) (v := .int (L.getD j.toNatClampNeg 0)) (by rw [eT]; exact A.1) (State.isArrayOf_alike hZ.alike A.2.1) A.2.2 hin (H.at hin (own_getD_int L _)) hg hs hd _ hk
theorem own_ldJ (X : Stand p l e R s m args below meth c T locs cells slots) (hx : p.tables.exec = Jvm.exec) (hZ : Z.Warmed39 s.vm) (eT : T.heap = h) (F : own_AJ Z h a n M) {j : Int32} (hj : ¬ j < 0 ∧ j < n) {g : JFrame} (hg : g.method = m) {rest : List Value} (hs : g.stack = .int j :: .ref a :: rest) (hd : decode c.code g.pc = .ok (.laload, 1)) :
    ∀ target, Steps p.tables e below (T.setTop { g with pc := g.pc + 1, stack := .long (M.getD j.toNatClampNeg 0) :: rest }) target → Steps p.tables e below (T.setTop g) target := by
  intro target hk
  obtain ⟨q, k, cl, A, r1, S, r3, H, G⟩ := F
  have hin := inb_of S hj
  exact X.laload hx (j := j) (v := .long (M.getD j.toNatClampNeg 0)) (by rw [eT]; exact A.1) (State.isArrayOf_alike hZ.alike A.2.1) A.2.2 hin (H.at hin (own_getD_long M _)) hg hs hd _ hk
theorem own_len (X : Stand p l e R s m args below meth c T locs cells slots) (hx : p.tables.exec = Jvm.exec) (hZ : Z.Warmed39 s.vm) (eT : T.heap = h) (F : own_AI Z h a ty n L) {g : JFrame} (hg : g.method = m) {rest : List Value} (hs : g.stack = .ref a :: rest) (hd : decode c.code g.pc = .ok (.arraylength, 1)) :
    ∀ target, Steps p.tables e below (T.setTop { g with pc := g.pc + 1, stack := .int n :: rest }) target → Steps p.tables e below (T.setTop g) target := by
  intro target hk
  obtain ⟨q, k, cl, A, r1, S, r3, H, G⟩ := F
  refine X.arraylength hx (by rw [eT]; exact A.1) (State.isArrayOf_alike hZ.alike A.2.1) hg hs hd _ ?_
  rw [len_of S r3]; exact hk
theorem own_lenJ (X : Stand p l e R s m args below meth c T locs cells slots) (hx : p.tables.exec = Jvm.exec) (hZ : Z.Warmed39 s.vm) (eT : T.heap = h) (F : own_AJ Z h a n M) {g : JFrame} (hg : g.method = m) {rest : List Value} (hs : g.stack = .ref a :: rest) (hd : decode c.code g.pc = .ok (.arraylength, 1)) :
    ∀ target, Steps p.tables e below (T.setTop { g with pc := g.pc + 1, stack := .int n :: rest }) target → Steps p.tables e below (T.setTop g) target := by
  intro target hk
  obtain ⟨q, k, cl, A, r1, S, r3, H, G⟩ := F
  refine X.arraylength hx (by rw [eT]; exact A.1) (State.isArrayOf_alike hZ.alike A.2.1) hg hs hd _ ?_
  rw [len_of S r3]; exact hk
theorem own_stI (X : Stand p l e R s m args below meth c T locs cells slots) (hx : p.tables.exec = Jvm.exec) (hZ : Z.Warmed39 s.vm) (eT : T.heap = h) (F : own_AI Z h a .int n L) {j x : Int32} (hj : ¬ j < 0 ∧ j < n) {g : JFrame} (hg : g.method = m) {rest : List Value} (hs : g.stack = .int x :: .int j :: .ref a :: rest) (hd : decode c.code g.pc = .ok (.iastore, 1)) :
    ∃ T' h', Stand p l e R s m args below meth c T' (locs ++ [⟨a, j.toNatClampNeg⟩]) cells slots ∧ T'.heap = h' ∧ Wr h h' a j.toNatClampNeg (.int x) ∧ own_AI Z h' a .int n (L.set j.toNatClampNeg x) ∧ ∀ target, Steps p.tables e below (T'.setTop { g with pc := g.pc + 1, stack := rest }) target → Steps p.tables e below (T.setTop g) target := by
  obtain ⟨q, k, cl, A, r1, S, r3, H, G⟩ := F
  obtain ⟨T', h', X', e', W, st⟩ := stI X hx hZ eT A (inb_of S hj) hg hs hd
  refine ⟨T', h', X', e', W, ⟨by simp [q], k, ?_⟩, st⟩
  have B := Arv.set A r1 S r3 H G (v := .int x) rfl W j.toNatClampNeg rfl (by rw [List.length_map]; exact own_inl q hj)
  rw [List.map_set]; exact B
theorem own_stB (X : Stand p l e R s m args below meth c T locs cells slots) (hx : p.tables.exec = Jvm.exec) (hZ : Z.Warmed39 s.vm) (eT : T.heap = h) (F : own_AI Z h a .byte n L) {j x : Int32} (hj : ¬ j < 0 ∧ j < n) {g : JFrame} (hg : g.method = m) {rest : List Value} (hs : g.stack = .int x :: .int j :: .ref a :: rest) (hd : decode c.code g.pc = .ok (.bastore, 1)) :
    ∃ T' h', Stand p l e R s m args below meth c T' (locs ++ [⟨a, j.toNatClampNeg⟩]) cells slots ∧ T'.heap = h' ∧ Wr h h' a j.toNatClampNeg (.int x.toInt8.toInt32) ∧ own_AI Z h' a .byte n (L.set j.toNatClampNeg x.toInt8.toInt32) ∧ ∀ target, Steps p.tables e below (T'.setTop { g with pc := g.pc + 1, stack := rest }) target → Steps p.tables e below (T.setTop g) target := by
  obtain ⟨q, k, cl, A, r1, S, r3, H, G⟩ := F
  obtain ⟨T', h', X', e', W, st⟩ := stB X hx hZ eT A (inb_of S hj) hg hs hd
  refine ⟨T', h', X', e', W, ⟨by simp [q], k, ?_⟩, st⟩
  have B := Arv.set A r1 S r3 H G (v := .int x.toInt8.toInt32) (fits_nar_byte _) W j.toNatClampNeg rfl (by rw [List.length_map]; exact own_inl q hj)
  rw [List.map_set]; exact B
theorem own_stJ (X : Stand p l e R s m args below meth c T locs cells slots) (hx : p.tables.exec = Jvm.exec) (hZ : Z.Warmed39 s.vm) (eT : T.heap = h) (F : own_AJ Z h a n M) {j : Int32} {x : Int64} (hj : ¬ j < 0 ∧ j < n) {g : JFrame} (hg : g.method = m) {rest : List Value} (hs : g.stack = .long x :: .int j :: .ref a :: rest) (hd : decode c.code g.pc = .ok (.lastore, 1)) :
    ∃ T' h', Stand p l e R s m args below meth c T' (locs ++ [⟨a, j.toNatClampNeg⟩]) cells slots ∧ T'.heap = h' ∧ Wr h h' a j.toNatClampNeg (.long x) ∧ own_AJ Z h' a n (M.set j.toNatClampNeg x) ∧ ∀ target, Steps p.tables e below (T'.setTop { g with pc := g.pc + 1, stack := rest }) target → Steps p.tables e below (T.setTop g) target := by
  obtain ⟨q, k, cl, A, r1, S, r3, H, G⟩ := F
  obtain ⟨T', h', X', e', W, st⟩ := stJ X hx hZ eT A (inb_of S hj) hg hs hd
  refine ⟨T', h', X', e', W, ⟨by simp [q], k, ?_⟩, st⟩
  have B := Arv.set A r1 S r3 H G (v := .long x) rfl W j.toNatClampNeg rfl (by rw [List.length_map]; exact own_inl q hj)
  rw [List.map_set]; exact B
end OwnArr
end Jvm.RoadKit
namespace Jvm.Pilot.@@N@@
open Jvm Jvm.ClassFile Sem Op Lib Jvm.Free Jvm.Stand Jvm.LawKit Jvm.RoadKit Bundle Jvm.Pilot.@@N@@.Jvm.D
theorem own_pn0 : plainName "com/example/monitorgen/monitorgen/property/Alphabet" = true := by first | (simp [plainName, overriddenIn]; done) | decide +kernel
theorem own_d1_0 : decode prog_30_method_7_code 0 = .ok (.iload_n 0, 1) := by decide +kernel
theorem own_d1_1 : decode prog_30_method_7_code 1 = .ok (.bipush 32, 2) := by decide +kernel
theorem own_d1_3 : decode prog_30_method_7_code 3 = .ok (.if_icmp .le 12, 3) := by decide +kernel
theorem own_d1_6 : decode prog_30_method_7_code 6 = .ok (.iload_n 0, 1) := by decide +kernel
theorem own_d1_7 : decode prog_30_method_7_code 7 = .ok (.sipush 133, 3) := by decide +kernel
theorem own_d1_10 : decode prog_30_method_7_code 10 = .ok (.if_icmp .ge 5, 3) := by decide +kernel
theorem own_d1_13 : decode prog_30_method_7_code 13 = .ok (.iconst 0, 1) := by decide +kernel
theorem own_d1_14 : decode prog_30_method_7_code 14 = .ok (.ireturn, 1) := by decide +kernel
theorem own_d1_15 : decode prog_30_method_7_code 15 = .ok (.iload_n 0, 1) := by decide +kernel
theorem own_d1_16 : decode prog_30_method_7_code 16 = .ok (.lookupswitch 128 #[(9, 124), (10, 124), (11, 124), (12, 124), (13, 124), (32, 124), (133, 124), (160, 124), (5760, 124), (8232, 124), (8233, 124), (8239, 124), (8287, 124), (12288, 124)], 124) := by decide +kernel
theorem own_d1_140 : decode prog_30_method_7_code 140 = .ok (.iconst 1, 1) := by decide +kernel
theorem own_d1_141 : decode prog_30_method_7_code 141 = .ok (.goto 22, 3) := by decide +kernel
theorem own_d1_144 : decode prog_30_method_7_code 144 = .ok (.iload_n 0, 1) := by decide +kernel
theorem own_d1_145 : decode prog_30_method_7_code 145 = .ok (.sipush 8192, 3) := by decide +kernel
theorem own_d1_148 : decode prog_30_method_7_code 148 = .ok (.if_icmp .lt 14, 3) := by decide +kernel
theorem own_d1_151 : decode prog_30_method_7_code 151 = .ok (.iload_n 0, 1) := by decide +kernel
theorem own_d1_152 : decode prog_30_method_7_code 152 = .ok (.sipush 8202, 3) := by decide +kernel
theorem own_d1_155 : decode prog_30_method_7_code 155 = .ok (.if_icmp .gt 7, 3) := by decide +kernel
theorem own_d1_158 : decode prog_30_method_7_code 158 = .ok (.iconst 1, 1) := by decide +kernel
theorem own_d1_159 : decode prog_30_method_7_code 159 = .ok (.goto 4, 3) := by decide +kernel
theorem own_d1_162 : decode prog_30_method_7_code 162 = .ok (.iconst 0, 1) := by decide +kernel
theorem own_d1_163 : decode prog_30_method_7_code 163 = .ok (.ireturn, 1) := by decide +kernel
def own_v1_16_s0 (xa : Int32) : Int32 := (if (xa = (9 : Int32) ∨ xa = (10 : Int32) ∨ xa = (11 : Int32) ∨ xa = (12 : Int32) ∨ xa = (13 : Int32) ∨ xa = (32 : Int32) ∨ xa = (133 : Int32) ∨ xa = (160 : Int32) ∨ xa = (5760 : Int32) ∨ xa = (8232 : Int32) ∨ xa = (8233 : Int32) ∨ xa = (8239 : Int32) ∨ xa = (8287 : Int32) ∨ xa = (12288 : Int32)) then (1 : Int32) else (if xa < (8192 : Int32) then (0 : Int32) else (if (8202 : Int32) < xa then (0 : Int32) else (1 : Int32))))
def own_f1 (xa : Int32) : Int32 := (if (32 : Int32) < xa then (if xa < (133 : Int32) then (0 : Int32) else (own_v1_16_s0 xa)) else (own_v1_16_s0 xa))
theorem own_b1_16_s0 (xa : Int32) : (own_v1_16_s0 xa) &&& 1 = (own_v1_16_s0 xa) := (own_ite_bool (by decide) (own_ite_bool (by decide) (own_ite_bool (by decide) (by decide))))
theorem own_bf1 (xa : Int32) : (own_f1 xa) &&& 1 = (own_f1 xa) := (own_ite_bool (own_ite_bool (by decide) (own_b1_16_s0 xa)) (own_b1_16_s0 xa))
theorem own_ef1 (m : MethodId) (xa : Int32) : entryFrame m #[(.int xa)] 1 = mkF m 0 #[.val (.int xa)] [] := by first | (simp [entryFrame, mkF, argsToLocals, Value.category]; done) | rfl
abbrev own_room1 : Room := { frames := 0, cells := 0, slots := 0, locals := 0 }
def own_Q1 (Z : State) (xa : Int32) (h0 : Heap) (n0 : Nat) (v : Option Value) (h : Heap) (L : List Loc) : Prop := v = some (.int (own_f1 xa)) ∧ Fr n0 L ∧ h = h0
set_option maxRecDepth 65536 in
set_option maxHeartbeats 40000000 in
theorem own_rm1 (l : Launch) (Z : State) (a0 : Array Value) (hw : ∀ d ∈ tables_1, d.before a0 Z = true) (ws : List Jvm.Cond) (xa : Int32) (h0 : Heap) (n0 : Nat) (Z0 : n0 ≤ h0.size) :
    MetFree l (⟨"com/example/monitorgen/monitorgen/property/Alphabet", "isWhitespace", "(I)Z"⟩ : MethodName) (head1 (Jvm.Cond.code (⟨"com/example/monitorgen/monitorgen/property/Alphabet", "isWhitespace", "(I)Z"⟩ : MethodName) prog_30_method_7_code 1 (some .boolean) :: ws) own_room1) (fun a U => a = #[(.int xa)] ∧ Z.Warmed39 U.vm ∧ U.heap = h0) (fun _ _ _ _ _ => True) (fun _ U o U' => ∃ v L, o = .returned v ∧ own_Q1 Z xa h0 n0 v U'.heap L ∧ FrameEnd U o U' L own_room1.cells own_room1.slots) := by
  refine MetFree.of_bodySF (plainFor_of_name own_pn0) hisR ?_
  intro p e s m args below meth c s₁ Bd hml0 hP hK
  obtain ⟨rfl, hZ, hh⟩ := hP
  have hx := Bd.exec
  have hby := Bd.bytes
  have hml : c.maxLocals = 1 := hml0
  have hown : s.vm.findClass "com/example/monitorgen/monitorgen/property/Alphabet" = some m.cls := findClass_of_methodNamed Bd.named
  have hnm := (name_of_methodNamed Bd.named Bd.method).1
  have X0 : Stand p l e own_room1 s m #[(.int xa)] below meth c s₁ [] 0 0 := Stand.of_body Bd
  have e0 : s₁.heap = h0 := by rw [← hh, Bd.state]; rfl
  have N0 := Fr.nil n0
  refine own_out (Q := fun o U' => ∃ v L, o = .returned v ∧ own_Q1 Z xa h0 n0 v U'.heap L ∧ FrameEnd s o U' L own_room1.cells own_room1.slots) ?_
  refine own_go (T' := s₁) (f' := (mkF m 0 #[.val (.int xa)] [])) ?_ (fun _ k => castTop (own_ef1 m xa) k)
  refine own_go (T' := s₁) (f' := (mkF m 1 #[.val (.int xa)] [(.int xa)])) ?_ (fun _ k => XS.iloadN X0.here hx rfl (hb hby own_d1_0) rfl  k)
  refine own_go (T' := s₁) (f' := (mkF m 3 #[.val (.int xa)] [(.int (32 : Int32)), (.int xa)])) ?_ (fun _ k => XS.bipush X0.here hx rfl (hb hby own_d1_1) k)
  by_cases hc3_1 : (32 : Int32) < xa
  · refine own_go (T' := s₁) (f' := (mkF m 6 #[.val (.int xa)] [])) ?_ (fun _ k => XS.icmpNo X0.here hx rfl (hb hby own_d1_3) rfl (tlt hc3_1).2.2.2 k)
    refine own_go (T' := s₁) (f' := (mkF m 7 #[.val (.int xa)] [(.int xa)])) ?_ (fun _ k => XS.iloadN X0.here hx rfl (hb hby own_d1_6) rfl  k)
    refine own_go (T' := s₁) (f' := (mkF m 10 #[.val (.int xa)] [(.int (133 : Int32)), (.int xa)])) ?_ (fun _ k => XS.sipush X0.here hx rfl (hb hby own_d1_7) k)
    by_cases hc10_2 : xa < (133 : Int32)
    · refine own_go (T' := s₁) (f' := (mkF m 13 #[.val (.int xa)] [])) ?_ (fun _ k => XS.icmpNo X0.here hx rfl (hb hby own_d1_10) rfl (tlt hc10_2).2.1 k)
      refine own_go (T' := s₁) (f' := (mkF m 14 #[.val (.int xa)] [(.int (0 : Int32))])) ?_ (fun _ k => XS.iconst X0.here hx rfl (hb hby own_d1_13) k)
      obtain ⟨fs3, hr3, hrun3, hended3, hW3, hsame3⟩ := X0.leave (v := some (.int (0 : Int32))) (fun h => by rw [Bd.returns] at h; cases h)
      refine ⟨_, ⟨_, hrun3, hended3, _, _, rfl, ?_, ⟨_, rfl⟩, hW3, hsame3.mono (by decide) (by decide)⟩, fun _ k => (own_retZ X0 hx Bd.returns (by decide) (hb hby own_d1_14) hr3).trans k⟩
      show own_Q1 Z xa h0 n0 _ s₁.heap _
      rw [e0]
      exact ⟨(congrArg (fun z => some (Value.int z)) (show (0 : Int32) = (own_f1 xa) from ((Eq.trans (if_pos hc3_1) (if_pos hc10_2))).symm)), N0, rfl⟩
    · refine own_go (T' := s₁) (f' := (mkF m 15 #[.val (.int xa)] [])) ?_ (fun _ k => XS.icmpYes X0.here hx rfl (pc0 := 10) (pc' := 15) rfl (hb hby own_d1_10) rfl (flt hc10_2).2.1 (by decide) (by decide) k)
      refine own_go (T' := s₁) (f' := (mkF m 16 #[.val (.int xa)] [(.int xa)])) ?_ (fun _ k => XS.iloadN X0.here hx rfl (hb hby own_d1_15) rfl  k)
      obtain ⟨_, ⟨T4, L4, rfl, X4, e4, N4⟩, mg4⟩ : own_Goes p.tables e below (fun uu => ∃ (T' : State) (L' : List Loc), uu = T'.setTop (mkF m 163 #[.val (.int xa)] [(.int (own_v1_16_s0 xa))]) ∧ Stand p l e own_room1 s m #[(.int xa)] below meth c T' L' 0 0 ∧ T'.heap = h0 ∧ Fr n0 L') s₁ (mkF m 16 #[.val (.int xa)] [(.int xa)]) := by
        by_cases hc16_5 : (xa = (9 : Int32) ∨ xa = (10 : Int32) ∨ xa = (11 : Int32) ∨ xa = (12 : Int32) ∨ xa = (13 : Int32) ∨ xa = (32 : Int32) ∨ xa = (133 : Int32) ∨ xa = (160 : Int32) ∨ xa = (5760 : Int32) ∨ xa = (8232 : Int32) ∨ xa = (8233 : Int32) ∨ xa = (8239 : Int32) ∨ xa = (8287 : Int32) ∨ xa = (12288 : Int32))
        · refine own_go (T' := s₁) (f' := (mkF m 140 #[.val (.int xa)] [])) ?_ (fun _ k => own_lsw X0.here hx rfl (pc0 := 16) (pc' := 140) rfl (hb hby own_d1_16) rfl (by decide) (o := 124) (by rcases hc16_5 with hq | hq | hq | hq | hq | hq | hq | hq | hq | hq | hq | hq | hq | hq <;> rw [hq] <;> decide) (by decide) (by decide) k)
          refine own_go (T' := s₁) (f' := (mkF m 141 #[.val (.int xa)] [(.int (1 : Int32))])) ?_ (fun _ k => XS.iconst X0.here hx rfl (hb hby own_d1_140) k)
          refine own_go (T' := s₁) (f' := (mkF m 163 #[.val (.int xa)] [(.int (1 : Int32))])) ?_ (fun _ k => XS.goto X0.here hx rfl (pc0 := 141) (pc' := 163) rfl (hb hby own_d1_141) (by decide) (by decide) k)
          have em6 : (own_v1_16_s0 xa) = (1 : Int32) := (if_pos hc16_5)
          exact ⟨_, ⟨s₁, _, (by rw [em6]), X0, e0, N0⟩, fun _ k => k⟩
        · refine own_go (T' := s₁) (f' := (mkF m 144 #[.val (.int xa)] [])) ?_ (fun _ k => own_lsw X0.here hx rfl (pc0 := 16) (pc' := 144) rfl (hb hby own_d1_16) rfl (by decide) (o := 128) (by simp only [not_or] at hc16_5; obtain ⟨hq0, hq1, hq2, hq3, hq4, hq5, hq6, hq7, hq8, hq9, hq10, hq11, hq12, hq13⟩ := hc16_5; exact ((if_neg (own_ne_key hq0)).trans ((if_neg (own_ne_key hq1)).trans ((if_neg (own_ne_key hq2)).trans ((if_neg (own_ne_key hq3)).trans ((if_neg (own_ne_key hq4)).trans ((if_neg (own_ne_key hq5)).trans ((if_neg (own_ne_key hq6)).trans ((if_neg (own_ne_key hq7)).trans ((if_neg (own_ne_key hq8)).trans ((if_neg (own_ne_key hq9)).trans ((if_neg (own_ne_key hq10)).trans ((if_neg (own_ne_key hq11)).trans ((if_neg (own_ne_key hq12)).trans ((if_neg (own_ne_key hq13)).trans rfl))))))))))))))) (by decide) (by decide) k)
          refine own_go (T' := s₁) (f' := (mkF m 145 #[.val (.int xa)] [(.int xa)])) ?_ (fun _ k => XS.iloadN X0.here hx rfl (hb hby own_d1_144) rfl  k)
          refine own_go (T' := s₁) (f' := (mkF m 148 #[.val (.int xa)] [(.int (8192 : Int32)), (.int xa)])) ?_ (fun _ k => XS.sipush X0.here hx rfl (hb hby own_d1_145) k)
          by_cases hc148_7 : xa < (8192 : Int32)
          · refine own_go (T' := s₁) (f' := (mkF m 162 #[.val (.int xa)] [])) ?_ (fun _ k => XS.icmpYes X0.here hx rfl (pc0 := 148) (pc' := 162) rfl (hb hby own_d1_148) rfl (tlt hc148_7).1 (by decide) (by decide) k)
            refine own_go (T' := s₁) (f' := (mkF m 163 #[.val (.int xa)] [(.int (0 : Int32))])) ?_ (fun _ k => XS.iconst X0.here hx rfl (hb hby own_d1_162) k)
            have em8 : (own_v1_16_s0 xa) = (0 : Int32) := (Eq.trans (if_neg hc16_5) (if_pos hc148_7))
            exact ⟨_, ⟨s₁, _, (by rw [em8]), X0, e0, N0⟩, fun _ k => k⟩
          · refine own_go (T' := s₁) (f' := (mkF m 151 #[.val (.int xa)] [])) ?_ (fun _ k => XS.icmpNo X0.here hx rfl (hb hby own_d1_148) rfl (flt hc148_7).1 k)
            refine own_go (T' := s₁) (f' := (mkF m 152 #[.val (.int xa)] [(.int xa)])) ?_ (fun _ k => XS.iloadN X0.here hx rfl (hb hby own_d1_151) rfl  k)
            refine own_go (T' := s₁) (f' := (mkF m 155 #[.val (.int xa)] [(.int (8202 : Int32)), (.int xa)])) ?_ (fun _ k => XS.sipush X0.here hx rfl (hb hby own_d1_152) k)
            by_cases hc155_9 : (8202 : Int32) < xa
            · refine own_go (T' := s₁) (f' := (mkF m 162 #[.val (.int xa)] [])) ?_ (fun _ k => XS.icmpYes X0.here hx rfl (pc0 := 155) (pc' := 162) rfl (hb hby own_d1_155) rfl (tlt hc155_9).2.2.1 (by decide) (by decide) k)
              refine own_go (T' := s₁) (f' := (mkF m 163 #[.val (.int xa)] [(.int (0 : Int32))])) ?_ (fun _ k => XS.iconst X0.here hx rfl (hb hby own_d1_162) k)
              have em10 : (own_v1_16_s0 xa) = (0 : Int32) := (Eq.trans (if_neg hc16_5) (Eq.trans (if_neg hc148_7) (if_pos hc155_9)))
              exact ⟨_, ⟨s₁, _, (by rw [em10]), X0, e0, N0⟩, fun _ k => k⟩
            · refine own_go (T' := s₁) (f' := (mkF m 158 #[.val (.int xa)] [])) ?_ (fun _ k => XS.icmpNo X0.here hx rfl (hb hby own_d1_155) rfl (flt hc155_9).2.2.1 k)
              refine own_go (T' := s₁) (f' := (mkF m 159 #[.val (.int xa)] [(.int (1 : Int32))])) ?_ (fun _ k => XS.iconst X0.here hx rfl (hb hby own_d1_158) k)
              refine own_go (T' := s₁) (f' := (mkF m 163 #[.val (.int xa)] [(.int (1 : Int32))])) ?_ (fun _ k => XS.goto X0.here hx rfl (pc0 := 159) (pc' := 163) rfl (hb hby own_d1_159) (by decide) (by decide) k)
              have em11 : (own_v1_16_s0 xa) = (1 : Int32) := (Eq.trans (if_neg hc16_5) (Eq.trans (if_neg hc148_7) (if_neg hc155_9)))
              exact ⟨_, ⟨s₁, _, (by rw [em11]), X0, e0, N0⟩, fun _ k => k⟩
      refine own_go (T' := T4) (f' := (mkF m 163 #[.val (.int xa)] [(.int (own_v1_16_s0 xa))])) ?_ (mg4)
      obtain ⟨fs12, hr12, hrun12, hended12, hW12, hsame12⟩ := X4.leave (v := some (.int (own_v1_16_s0 xa))) (fun h => by rw [Bd.returns] at h; cases h)
      refine ⟨_, ⟨_, hrun12, hended12, _, _, rfl, ?_, ⟨_, rfl⟩, hW12, hsame12.mono (by decide) (by decide)⟩, fun _ k => (own_retZ X4 hx Bd.returns (own_b1_16_s0 xa) (hb hby own_d1_163) hr12).trans k⟩
      show own_Q1 Z xa h0 n0 _ T4.heap _
      rw [e4]
      exact ⟨(congrArg (fun z => some (Value.int z)) (show (own_v1_16_s0 xa) = (own_f1 xa) from ((Eq.trans (if_pos hc3_1) (if_neg hc10_2))).symm)), N4, rfl⟩
  · refine own_go (T' := s₁) (f' := (mkF m 15 #[.val (.int xa)] [])) ?_ (fun _ k => XS.icmpYes X0.here hx rfl (pc0 := 3) (pc' := 15) rfl (hb hby own_d1_3) rfl (flt hc3_1).2.2.2 (by decide) (by decide) k)
    refine own_go (T' := s₁) (f' := (mkF m 16 #[.val (.int xa)] [(.int xa)])) ?_ (fun _ k => XS.iloadN X0.here hx rfl (hb hby own_d1_15) rfl  k)
    obtain ⟨_, ⟨T13, L13, rfl, X13, e13, N13⟩, mg13⟩ : own_Goes p.tables e below (fun uu => ∃ (T' : State) (L' : List Loc), uu = T'.setTop (mkF m 163 #[.val (.int xa)] [(.int (own_v1_16_s0 xa))]) ∧ Stand p l e own_room1 s m #[(.int xa)] below meth c T' L' 0 0 ∧ T'.heap = h0 ∧ Fr n0 L') s₁ (mkF m 16 #[.val (.int xa)] [(.int xa)]) := by
      by_cases hc16_14 : (xa = (9 : Int32) ∨ xa = (10 : Int32) ∨ xa = (11 : Int32) ∨ xa = (12 : Int32) ∨ xa = (13 : Int32) ∨ xa = (32 : Int32) ∨ xa = (133 : Int32) ∨ xa = (160 : Int32) ∨ xa = (5760 : Int32) ∨ xa = (8232 : Int32) ∨ xa = (8233 : Int32) ∨ xa = (8239 : Int32) ∨ xa = (8287 : Int32) ∨ xa = (12288 : Int32))
      · refine own_go (T' := s₁) (f' := (mkF m 140 #[.val (.int xa)] [])) ?_ (fun _ k => own_lsw X0.here hx rfl (pc0 := 16) (pc' := 140) rfl (hb hby own_d1_16) rfl (by decide) (o := 124) (by rcases hc16_14 with hq | hq | hq | hq | hq | hq | hq | hq | hq | hq | hq | hq | hq | hq <;> rw [hq] <;> decide) (by decide) (by decide) k)
        refine own_go (T' := s₁) (f' := (mkF m 141 #[.val (.int xa)] [(.int (1 : Int32))])) ?_ (fun _ k => XS.iconst X0.here hx rfl (hb hby own_d1_140) k)
        refine own_go (T' := s₁) (f' := (mkF m 163 #[.val (.int xa)] [(.int (1 : Int32))])) ?_ (fun _ k => XS.goto X0.here hx rfl (pc0 := 141) (pc' := 163) rfl (hb hby own_d1_141) (by decide) (by decide) k)
        have em15 : (own_v1_16_s0 xa) = (1 : Int32) := (if_pos hc16_14)
        exact ⟨_, ⟨s₁, _, (by rw [em15]), X0, e0, N0⟩, fun _ k => k⟩
      · refine own_go (T' := s₁) (f' := (mkF m 144 #[.val (.int xa)] [])) ?_ (fun _ k => own_lsw X0.here hx rfl (pc0 := 16) (pc' := 144) rfl (hb hby own_d1_16) rfl (by decide) (o := 128) (by simp only [not_or] at hc16_14; obtain ⟨hq0, hq1, hq2, hq3, hq4, hq5, hq6, hq7, hq8, hq9, hq10, hq11, hq12, hq13⟩ := hc16_14; exact ((if_neg (own_ne_key hq0)).trans ((if_neg (own_ne_key hq1)).trans ((if_neg (own_ne_key hq2)).trans ((if_neg (own_ne_key hq3)).trans ((if_neg (own_ne_key hq4)).trans ((if_neg (own_ne_key hq5)).trans ((if_neg (own_ne_key hq6)).trans ((if_neg (own_ne_key hq7)).trans ((if_neg (own_ne_key hq8)).trans ((if_neg (own_ne_key hq9)).trans ((if_neg (own_ne_key hq10)).trans ((if_neg (own_ne_key hq11)).trans ((if_neg (own_ne_key hq12)).trans ((if_neg (own_ne_key hq13)).trans rfl))))))))))))))) (by decide) (by decide) k)
        refine own_go (T' := s₁) (f' := (mkF m 145 #[.val (.int xa)] [(.int xa)])) ?_ (fun _ k => XS.iloadN X0.here hx rfl (hb hby own_d1_144) rfl  k)
        refine own_go (T' := s₁) (f' := (mkF m 148 #[.val (.int xa)] [(.int (8192 : Int32)), (.int xa)])) ?_ (fun _ k => XS.sipush X0.here hx rfl (hb hby own_d1_145) k)
        by_cases hc148_16 : xa < (8192 : Int32)
        · refine own_go (T' := s₁) (f' := (mkF m 162 #[.val (.int xa)] [])) ?_ (fun _ k => XS.icmpYes X0.here hx rfl (pc0 := 148) (pc' := 162) rfl (hb hby own_d1_148) rfl (tlt hc148_16).1 (by decide) (by decide) k)
          refine own_go (T' := s₁) (f' := (mkF m 163 #[.val (.int xa)] [(.int (0 : Int32))])) ?_ (fun _ k => XS.iconst X0.here hx rfl (hb hby own_d1_162) k)
          have em17 : (own_v1_16_s0 xa) = (0 : Int32) := (Eq.trans (if_neg hc16_14) (if_pos hc148_16))
          exact ⟨_, ⟨s₁, _, (by rw [em17]), X0, e0, N0⟩, fun _ k => k⟩
        · refine own_go (T' := s₁) (f' := (mkF m 151 #[.val (.int xa)] [])) ?_ (fun _ k => XS.icmpNo X0.here hx rfl (hb hby own_d1_148) rfl (flt hc148_16).1 k)
          refine own_go (T' := s₁) (f' := (mkF m 152 #[.val (.int xa)] [(.int xa)])) ?_ (fun _ k => XS.iloadN X0.here hx rfl (hb hby own_d1_151) rfl  k)
          refine own_go (T' := s₁) (f' := (mkF m 155 #[.val (.int xa)] [(.int (8202 : Int32)), (.int xa)])) ?_ (fun _ k => XS.sipush X0.here hx rfl (hb hby own_d1_152) k)
          by_cases hc155_18 : (8202 : Int32) < xa
          · refine own_go (T' := s₁) (f' := (mkF m 162 #[.val (.int xa)] [])) ?_ (fun _ k => XS.icmpYes X0.here hx rfl (pc0 := 155) (pc' := 162) rfl (hb hby own_d1_155) rfl (tlt hc155_18).2.2.1 (by decide) (by decide) k)
            refine own_go (T' := s₁) (f' := (mkF m 163 #[.val (.int xa)] [(.int (0 : Int32))])) ?_ (fun _ k => XS.iconst X0.here hx rfl (hb hby own_d1_162) k)
            have em19 : (own_v1_16_s0 xa) = (0 : Int32) := (Eq.trans (if_neg hc16_14) (Eq.trans (if_neg hc148_16) (if_pos hc155_18)))
            exact ⟨_, ⟨s₁, _, (by rw [em19]), X0, e0, N0⟩, fun _ k => k⟩
          · refine own_go (T' := s₁) (f' := (mkF m 158 #[.val (.int xa)] [])) ?_ (fun _ k => XS.icmpNo X0.here hx rfl (hb hby own_d1_155) rfl (flt hc155_18).2.2.1 k)
            refine own_go (T' := s₁) (f' := (mkF m 159 #[.val (.int xa)] [(.int (1 : Int32))])) ?_ (fun _ k => XS.iconst X0.here hx rfl (hb hby own_d1_158) k)
            refine own_go (T' := s₁) (f' := (mkF m 163 #[.val (.int xa)] [(.int (1 : Int32))])) ?_ (fun _ k => XS.goto X0.here hx rfl (pc0 := 159) (pc' := 163) rfl (hb hby own_d1_159) (by decide) (by decide) k)
            have em20 : (own_v1_16_s0 xa) = (1 : Int32) := (Eq.trans (if_neg hc16_14) (Eq.trans (if_neg hc148_16) (if_neg hc155_18)))
            exact ⟨_, ⟨s₁, _, (by rw [em20]), X0, e0, N0⟩, fun _ k => k⟩
    refine own_go (T' := T13) (f' := (mkF m 163 #[.val (.int xa)] [(.int (own_v1_16_s0 xa))])) ?_ (mg13)
    obtain ⟨fs21, hr21, hrun21, hended21, hW21, hsame21⟩ := X13.leave (v := some (.int (own_v1_16_s0 xa))) (fun h => by rw [Bd.returns] at h; cases h)
    refine ⟨_, ⟨_, hrun21, hended21, _, _, rfl, ?_, ⟨_, rfl⟩, hW21, hsame21.mono (by decide) (by decide)⟩, fun _ k => (own_retZ X13 hx Bd.returns (own_b1_16_s0 xa) (hb hby own_d1_163) hr21).trans k⟩
    show own_Q1 Z xa h0 n0 _ T13.heap _
    rw [e13]
    exact ⟨(congrArg (fun z => some (Value.int z)) (show (own_v1_16_s0 xa) = (own_f1 xa) from ((if_neg hc3_1)).symm)), N13, rfl⟩
theorem own_pn1 : plainName "com/example/monitorgen/monitorgen/property/AlphabetIsWhitespacePinLaw" = true := by first | (simp [plainName, overriddenIn]; done) | decide +kernel
theorem own_d2_0 : decode method_2_code 0 = .ok (.iload_n 0, 1) := by decide +kernel
theorem own_d2_1 : decode method_2_code 1 = .ok (.bipush 9, 2) := by decide +kernel
theorem own_d2_3 : decode method_2_code 3 = .ok (.if_icmp .lt 11, 3) := by decide +kernel
theorem own_d2_6 : decode method_2_code 6 = .ok (.iload_n 0, 1) := by decide +kernel
theorem own_d2_7 : decode method_2_code 7 = .ok (.bipush 13, 2) := by decide +kernel
theorem own_d2_9 : decode method_2_code 9 = .ok (.if_icmp .gt 5, 3) := by decide +kernel
theorem own_d2_12 : decode method_2_code 12 = .ok (.iconst 1, 1) := by decide +kernel
theorem own_d2_13 : decode method_2_code 13 = .ok (.ireturn, 1) := by decide +kernel
theorem own_d2_14 : decode method_2_code 14 = .ok (.iload_n 0, 1) := by decide +kernel
theorem own_d2_15 : decode method_2_code 15 = .ok (.sipush 8192, 3) := by decide +kernel
theorem own_d2_18 : decode method_2_code 18 = .ok (.if_icmp .lt 12, 3) := by decide +kernel
theorem own_d2_21 : decode method_2_code 21 = .ok (.iload_n 0, 1) := by decide +kernel
theorem own_d2_22 : decode method_2_code 22 = .ok (.sipush 8202, 3) := by decide +kernel
theorem own_d2_25 : decode method_2_code 25 = .ok (.if_icmp .gt 5, 3) := by decide +kernel
theorem own_d2_28 : decode method_2_code 28 = .ok (.iconst 1, 1) := by decide +kernel
theorem own_d2_29 : decode method_2_code 29 = .ok (.ireturn, 1) := by decide +kernel
theorem own_d2_30 : decode method_2_code 30 = .ok (.iload_n 0, 1) := by decide +kernel
theorem own_d2_31 : decode method_2_code 31 = .ok (.bipush 32, 2) := by decide +kernel
theorem own_d2_33 : decode method_2_code 33 = .ok (.if_icmp .eq 59, 3) := by decide +kernel
theorem own_d2_36 : decode method_2_code 36 = .ok (.iload_n 0, 1) := by decide +kernel
theorem own_d2_37 : decode method_2_code 37 = .ok (.sipush 133, 3) := by decide +kernel
theorem own_d2_40 : decode method_2_code 40 = .ok (.if_icmp .eq 52, 3) := by decide +kernel
theorem own_d2_43 : decode method_2_code 43 = .ok (.iload_n 0, 1) := by decide +kernel
theorem own_d2_44 : decode method_2_code 44 = .ok (.sipush 160, 3) := by decide +kernel
theorem own_d2_47 : decode method_2_code 47 = .ok (.if_icmp .eq 45, 3) := by decide +kernel
theorem own_d2_50 : decode method_2_code 50 = .ok (.iload_n 0, 1) := by decide +kernel
theorem own_d2_51 : decode method_2_code 51 = .ok (.sipush 5760, 3) := by decide +kernel
theorem own_d2_54 : decode method_2_code 54 = .ok (.if_icmp .eq 38, 3) := by decide +kernel
theorem own_d2_57 : decode method_2_code 57 = .ok (.iload_n 0, 1) := by decide +kernel
theorem own_d2_58 : decode method_2_code 58 = .ok (.sipush 8232, 3) := by decide +kernel
theorem own_d2_61 : decode method_2_code 61 = .ok (.if_icmp .eq 31, 3) := by decide +kernel
theorem own_d2_64 : decode method_2_code 64 = .ok (.iload_n 0, 1) := by decide +kernel
theorem own_d2_65 : decode method_2_code 65 = .ok (.sipush 8233, 3) := by decide +kernel
theorem own_d2_68 : decode method_2_code 68 = .ok (.if_icmp .eq 24, 3) := by decide +kernel
theorem own_d2_71 : decode method_2_code 71 = .ok (.iload_n 0, 1) := by decide +kernel
theorem own_d2_72 : decode method_2_code 72 = .ok (.sipush 8239, 3) := by decide +kernel
theorem own_d2_75 : decode method_2_code 75 = .ok (.if_icmp .eq 17, 3) := by decide +kernel
theorem own_d2_78 : decode method_2_code 78 = .ok (.iload_n 0, 1) := by decide +kernel
theorem own_d2_79 : decode method_2_code 79 = .ok (.sipush 8287, 3) := by decide +kernel
theorem own_d2_82 : decode method_2_code 82 = .ok (.if_icmp .eq 10, 3) := by decide +kernel
theorem own_d2_85 : decode method_2_code 85 = .ok (.iload_n 0, 1) := by decide +kernel
theorem own_d2_86 : decode method_2_code 86 = .ok (.sipush 12288, 3) := by decide +kernel
theorem own_d2_89 : decode method_2_code 89 = .ok (.if_icmp .ne 7, 3) := by decide +kernel
theorem own_d2_92 : decode method_2_code 92 = .ok (.iconst 1, 1) := by decide +kernel
theorem own_d2_93 : decode method_2_code 93 = .ok (.goto 4, 3) := by decide +kernel
theorem own_d2_96 : decode method_2_code 96 = .ok (.iconst 0, 1) := by decide +kernel
theorem own_d2_97 : decode method_2_code 97 = .ok (.ireturn, 1) := by decide +kernel
def own_v2_33_s0 (xa : Int32) : Int32 := (if xa = (32 : Int32) then (1 : Int32) else (if xa = (133 : Int32) then (1 : Int32) else (if xa = (160 : Int32) then (1 : Int32) else (if xa = (5760 : Int32) then (1 : Int32) else (if xa = (8232 : Int32) then (1 : Int32) else (if xa = (8233 : Int32) then (1 : Int32) else (if xa = (8239 : Int32) then (1 : Int32) else (if xa = (8287 : Int32) then (1 : Int32) else (if xa = (12288 : Int32) then (1 : Int32) else (0 : Int32))))))))))
def own_f2 (xa : Int32) : Int32 := (if xa < (9 : Int32) then (if xa < (8192 : Int32) then (own_v2_33_s0 xa) else (if (8202 : Int32) < xa then (own_v2_33_s0 xa) else (1 : Int32))) else (if (13 : Int32) < xa then (if xa < (8192 : Int32) then (own_v2_33_s0 xa) else (if (8202 : Int32) < xa then (own_v2_33_s0 xa) else (1 : Int32))) else (1 : Int32)))
theorem own_b2_33_s0 (xa : Int32) : (own_v2_33_s0 xa) &&& 1 = (own_v2_33_s0 xa) := (own_ite_bool (by decide) (own_ite_bool (by decide) (own_ite_bool (by decide) (own_ite_bool (by decide) (own_ite_bool (by decide) (own_ite_bool (by decide) (own_ite_bool (by decide) (own_ite_bool (by decide) (own_ite_bool (by decide) (by decide))))))))))
theorem own_bf2 (xa : Int32) : (own_f2 xa) &&& 1 = (own_f2 xa) := (own_ite_bool (own_ite_bool (own_b2_33_s0 xa) (own_ite_bool (own_b2_33_s0 xa) (by decide))) (own_ite_bool (own_ite_bool (own_b2_33_s0 xa) (own_ite_bool (own_b2_33_s0 xa) (by decide))) (by decide)))
theorem own_ef2 (m : MethodId) (xa : Int32) : entryFrame m #[(.int xa)] 1 = mkF m 0 #[.val (.int xa)] [] := by first | (simp [entryFrame, mkF, argsToLocals, Value.category]; done) | rfl
abbrev own_room2 : Room := { frames := 0, cells := 0, slots := 0, locals := 0 }
def own_Q2 (Z : State) (xa : Int32) (h0 : Heap) (n0 : Nat) (v : Option Value) (h : Heap) (L : List Loc) : Prop := v = some (.int (own_f2 xa)) ∧ Fr n0 L ∧ h = h0
set_option maxRecDepth 65536 in
set_option maxHeartbeats 40000000 in
theorem own_rm2 (l : Launch) (Z : State) (a0 : Array Value) (hw : ∀ d ∈ tables_1, d.before a0 Z = true) (ws : List Jvm.Cond) (xa : Int32) (h0 : Heap) (n0 : Nat) (Z0 : n0 ≤ h0.size) :
    MetFree l (⟨"com/example/monitorgen/monitorgen/property/AlphabetIsWhitespacePinLaw", "ref", "(I)Z"⟩ : MethodName) (head1 (Jvm.Cond.code (⟨"com/example/monitorgen/monitorgen/property/AlphabetIsWhitespacePinLaw", "ref", "(I)Z"⟩ : MethodName) method_2_code 1 (some .boolean) :: ws) own_room2) (fun a U => a = #[(.int xa)] ∧ Z.Warmed39 U.vm ∧ U.heap = h0) (fun _ _ _ _ _ => True) (fun _ U o U' => ∃ v L, o = .returned v ∧ own_Q2 Z xa h0 n0 v U'.heap L ∧ FrameEnd U o U' L own_room2.cells own_room2.slots) := by
  refine MetFree.of_bodySF (plainFor_of_name own_pn1) hisR ?_
  intro p e s m args below meth c s₁ Bd hml0 hP hK
  obtain ⟨rfl, hZ, hh⟩ := hP
  have hx := Bd.exec
  have hby := Bd.bytes
  have hml : c.maxLocals = 1 := hml0
  have hown : s.vm.findClass "com/example/monitorgen/monitorgen/property/AlphabetIsWhitespacePinLaw" = some m.cls := findClass_of_methodNamed Bd.named
  have hnm := (name_of_methodNamed Bd.named Bd.method).1
  have X0 : Stand p l e own_room2 s m #[(.int xa)] below meth c s₁ [] 0 0 := Stand.of_body Bd
  have e0 : s₁.heap = h0 := by rw [← hh, Bd.state]; rfl
  have N0 := Fr.nil n0
  refine own_out (Q := fun o U' => ∃ v L, o = .returned v ∧ own_Q2 Z xa h0 n0 v U'.heap L ∧ FrameEnd s o U' L own_room2.cells own_room2.slots) ?_
  refine own_go (T' := s₁) (f' := (mkF m 0 #[.val (.int xa)] [])) ?_ (fun _ k => castTop (own_ef2 m xa) k)
  refine own_go (T' := s₁) (f' := (mkF m 1 #[.val (.int xa)] [(.int xa)])) ?_ (fun _ k => XS.iloadN X0.here hx rfl (hb hby own_d2_0) rfl  k)
  refine own_go (T' := s₁) (f' := (mkF m 3 #[.val (.int xa)] [(.int (9 : Int32)), (.int xa)])) ?_ (fun _ k => XS.bipush X0.here hx rfl (hb hby own_d2_1) k)
  by_cases hc3_1 : xa < (9 : Int32)
  · refine own_go (T' := s₁) (f' := (mkF m 14 #[.val (.int xa)] [])) ?_ (fun _ k => XS.icmpYes X0.here hx rfl (pc0 := 3) (pc' := 14) rfl (hb hby own_d2_3) rfl (tlt hc3_1).1 (by decide) (by decide) k)
    refine own_go (T' := s₁) (f' := (mkF m 15 #[.val (.int xa)] [(.int xa)])) ?_ (fun _ k => XS.iloadN X0.here hx rfl (hb hby own_d2_14) rfl  k)
    refine own_go (T' := s₁) (f' := (mkF m 18 #[.val (.int xa)] [(.int (8192 : Int32)), (.int xa)])) ?_ (fun _ k => XS.sipush X0.here hx rfl (hb hby own_d2_15) k)
    by_cases hc18_2 : xa < (8192 : Int32)
    · refine own_go (T' := s₁) (f' := (mkF m 30 #[.val (.int xa)] [])) ?_ (fun _ k => XS.icmpYes X0.here hx rfl (pc0 := 18) (pc' := 30) rfl (hb hby own_d2_18) rfl (tlt hc18_2).1 (by decide) (by decide) k)
      refine own_go (T' := s₁) (f' := (mkF m 31 #[.val (.int xa)] [(.int xa)])) ?_ (fun _ k => XS.iloadN X0.here hx rfl (hb hby own_d2_30) rfl  k)
      refine own_go (T' := s₁) (f' := (mkF m 33 #[.val (.int xa)] [(.int (32 : Int32)), (.int xa)])) ?_ (fun _ k => XS.bipush X0.here hx rfl (hb hby own_d2_31) k)
      obtain ⟨_, ⟨T3, L3, rfl, X3, e3, N3⟩, mg3⟩ : own_Goes p.tables e below (fun uu => ∃ (T' : State) (L' : List Loc), uu = T'.setTop (mkF m 97 #[.val (.int xa)] [(.int (own_v2_33_s0 xa))]) ∧ Stand p l e own_room2 s m #[(.int xa)] below meth c T' L' 0 0 ∧ T'.heap = h0 ∧ Fr n0 L') s₁ (mkF m 33 #[.val (.int xa)] [(.int (32 : Int32)), (.int xa)]) := by
        by_cases hc33_4 : xa = (32 : Int32)
        · refine own_go (T' := s₁) (f' := (mkF m 92 #[.val (.int xa)] [])) ?_ (fun _ k => XS.icmpYes X0.here hx rfl (pc0 := 33) (pc' := 92) rfl (hb hby own_d2_33) rfl (teq hc33_4).1 (by decide) (by decide) k)
          refine own_go (T' := s₁) (f' := (mkF m 93 #[.val (.int xa)] [(.int (1 : Int32))])) ?_ (fun _ k => XS.iconst X0.here hx rfl (hb hby own_d2_92) k)
          refine own_go (T' := s₁) (f' := (mkF m 97 #[.val (.int xa)] [(.int (1 : Int32))])) ?_ (fun _ k => XS.goto X0.here hx rfl (pc0 := 93) (pc' := 97) rfl (hb hby own_d2_93) (by decide) (by decide) k)
          have em5 : (own_v2_33_s0 xa) = (1 : Int32) := (if_pos hc33_4)
          exact ⟨_, ⟨s₁, _, (by rw [em5]), X0, e0, N0⟩, fun _ k => k⟩
        · refine own_go (T' := s₁) (f' := (mkF m 36 #[.val (.int xa)] [])) ?_ (fun _ k => XS.icmpNo X0.here hx rfl (hb hby own_d2_33) rfl (feq hc33_4).1 k)
          refine own_go (T' := s₁) (f' := (mkF m 37 #[.val (.int xa)] [(.int xa)])) ?_ (fun _ k => XS.iloadN X0.here hx rfl (hb hby own_d2_36) rfl  k)
          refine own_go (T' := s₁) (f' := (mkF m 40 #[.val (.int xa)] [(.int (133 : Int32)), (.int xa)])) ?_ (fun _ k => XS.sipush X0.here hx rfl (hb hby own_d2_37) k)
          by_cases hc40_6 : xa = (133 : Int32)
          · refine own_go (T' := s₁) (f' := (mkF m 92 #[.val (.int xa)] [])) ?_ (fun _ k => XS.icmpYes X0.here hx rfl (pc0 := 40) (pc' := 92) rfl (hb hby own_d2_40) rfl (teq hc40_6).1 (by decide) (by decide) k)
            refine own_go (T' := s₁) (f' := (mkF m 93 #[.val (.int xa)] [(.int (1 : Int32))])) ?_ (fun _ k => XS.iconst X0.here hx rfl (hb hby own_d2_92) k)
            refine own_go (T' := s₁) (f' := (mkF m 97 #[.val (.int xa)] [(.int (1 : Int32))])) ?_ (fun _ k => XS.goto X0.here hx rfl (pc0 := 93) (pc' := 97) rfl (hb hby own_d2_93) (by decide) (by decide) k)
            have em7 : (own_v2_33_s0 xa) = (1 : Int32) := (Eq.trans (if_neg hc33_4) (if_pos hc40_6))
            exact ⟨_, ⟨s₁, _, (by rw [em7]), X0, e0, N0⟩, fun _ k => k⟩
          · refine own_go (T' := s₁) (f' := (mkF m 43 #[.val (.int xa)] [])) ?_ (fun _ k => XS.icmpNo X0.here hx rfl (hb hby own_d2_40) rfl (feq hc40_6).1 k)
            refine own_go (T' := s₁) (f' := (mkF m 44 #[.val (.int xa)] [(.int xa)])) ?_ (fun _ k => XS.iloadN X0.here hx rfl (hb hby own_d2_43) rfl  k)
            refine own_go (T' := s₁) (f' := (mkF m 47 #[.val (.int xa)] [(.int (160 : Int32)), (.int xa)])) ?_ (fun _ k => XS.sipush X0.here hx rfl (hb hby own_d2_44) k)
            by_cases hc47_8 : xa = (160 : Int32)
            · refine own_go (T' := s₁) (f' := (mkF m 92 #[.val (.int xa)] [])) ?_ (fun _ k => XS.icmpYes X0.here hx rfl (pc0 := 47) (pc' := 92) rfl (hb hby own_d2_47) rfl (teq hc47_8).1 (by decide) (by decide) k)
              refine own_go (T' := s₁) (f' := (mkF m 93 #[.val (.int xa)] [(.int (1 : Int32))])) ?_ (fun _ k => XS.iconst X0.here hx rfl (hb hby own_d2_92) k)
              refine own_go (T' := s₁) (f' := (mkF m 97 #[.val (.int xa)] [(.int (1 : Int32))])) ?_ (fun _ k => XS.goto X0.here hx rfl (pc0 := 93) (pc' := 97) rfl (hb hby own_d2_93) (by decide) (by decide) k)
              have em9 : (own_v2_33_s0 xa) = (1 : Int32) := (Eq.trans (if_neg hc33_4) (Eq.trans (if_neg hc40_6) (if_pos hc47_8)))
              exact ⟨_, ⟨s₁, _, (by rw [em9]), X0, e0, N0⟩, fun _ k => k⟩
            · refine own_go (T' := s₁) (f' := (mkF m 50 #[.val (.int xa)] [])) ?_ (fun _ k => XS.icmpNo X0.here hx rfl (hb hby own_d2_47) rfl (feq hc47_8).1 k)
              refine own_go (T' := s₁) (f' := (mkF m 51 #[.val (.int xa)] [(.int xa)])) ?_ (fun _ k => XS.iloadN X0.here hx rfl (hb hby own_d2_50) rfl  k)
              refine own_go (T' := s₁) (f' := (mkF m 54 #[.val (.int xa)] [(.int (5760 : Int32)), (.int xa)])) ?_ (fun _ k => XS.sipush X0.here hx rfl (hb hby own_d2_51) k)
              by_cases hc54_10 : xa = (5760 : Int32)
              · refine own_go (T' := s₁) (f' := (mkF m 92 #[.val (.int xa)] [])) ?_ (fun _ k => XS.icmpYes X0.here hx rfl (pc0 := 54) (pc' := 92) rfl (hb hby own_d2_54) rfl (teq hc54_10).1 (by decide) (by decide) k)
                refine own_go (T' := s₁) (f' := (mkF m 93 #[.val (.int xa)] [(.int (1 : Int32))])) ?_ (fun _ k => XS.iconst X0.here hx rfl (hb hby own_d2_92) k)
                refine own_go (T' := s₁) (f' := (mkF m 97 #[.val (.int xa)] [(.int (1 : Int32))])) ?_ (fun _ k => XS.goto X0.here hx rfl (pc0 := 93) (pc' := 97) rfl (hb hby own_d2_93) (by decide) (by decide) k)
                have em11 : (own_v2_33_s0 xa) = (1 : Int32) := (Eq.trans (if_neg hc33_4) (Eq.trans (if_neg hc40_6) (Eq.trans (if_neg hc47_8) (if_pos hc54_10))))
                exact ⟨_, ⟨s₁, _, (by rw [em11]), X0, e0, N0⟩, fun _ k => k⟩
              · refine own_go (T' := s₁) (f' := (mkF m 57 #[.val (.int xa)] [])) ?_ (fun _ k => XS.icmpNo X0.here hx rfl (hb hby own_d2_54) rfl (feq hc54_10).1 k)
                refine own_go (T' := s₁) (f' := (mkF m 58 #[.val (.int xa)] [(.int xa)])) ?_ (fun _ k => XS.iloadN X0.here hx rfl (hb hby own_d2_57) rfl  k)
                refine own_go (T' := s₁) (f' := (mkF m 61 #[.val (.int xa)] [(.int (8232 : Int32)), (.int xa)])) ?_ (fun _ k => XS.sipush X0.here hx rfl (hb hby own_d2_58) k)
                by_cases hc61_12 : xa = (8232 : Int32)
                · refine own_go (T' := s₁) (f' := (mkF m 92 #[.val (.int xa)] [])) ?_ (fun _ k => XS.icmpYes X0.here hx rfl (pc0 := 61) (pc' := 92) rfl (hb hby own_d2_61) rfl (teq hc61_12).1 (by decide) (by decide) k)
                  refine own_go (T' := s₁) (f' := (mkF m 93 #[.val (.int xa)] [(.int (1 : Int32))])) ?_ (fun _ k => XS.iconst X0.here hx rfl (hb hby own_d2_92) k)
                  refine own_go (T' := s₁) (f' := (mkF m 97 #[.val (.int xa)] [(.int (1 : Int32))])) ?_ (fun _ k => XS.goto X0.here hx rfl (pc0 := 93) (pc' := 97) rfl (hb hby own_d2_93) (by decide) (by decide) k)
                  have em13 : (own_v2_33_s0 xa) = (1 : Int32) := (Eq.trans (if_neg hc33_4) (Eq.trans (if_neg hc40_6) (Eq.trans (if_neg hc47_8) (Eq.trans (if_neg hc54_10) (if_pos hc61_12)))))
                  exact ⟨_, ⟨s₁, _, (by rw [em13]), X0, e0, N0⟩, fun _ k => k⟩
                · refine own_go (T' := s₁) (f' := (mkF m 64 #[.val (.int xa)] [])) ?_ (fun _ k => XS.icmpNo X0.here hx rfl (hb hby own_d2_61) rfl (feq hc61_12).1 k)
                  refine own_go (T' := s₁) (f' := (mkF m 65 #[.val (.int xa)] [(.int xa)])) ?_ (fun _ k => XS.iloadN X0.here hx rfl (hb hby own_d2_64) rfl  k)
                  refine own_go (T' := s₁) (f' := (mkF m 68 #[.val (.int xa)] [(.int (8233 : Int32)), (.int xa)])) ?_ (fun _ k => XS.sipush X0.here hx rfl (hb hby own_d2_65) k)
                  by_cases hc68_14 : xa = (8233 : Int32)
                  · refine own_go (T' := s₁) (f' := (mkF m 92 #[.val (.int xa)] [])) ?_ (fun _ k => XS.icmpYes X0.here hx rfl (pc0 := 68) (pc' := 92) rfl (hb hby own_d2_68) rfl (teq hc68_14).1 (by decide) (by decide) k)
                    refine own_go (T' := s₁) (f' := (mkF m 93 #[.val (.int xa)] [(.int (1 : Int32))])) ?_ (fun _ k => XS.iconst X0.here hx rfl (hb hby own_d2_92) k)
                    refine own_go (T' := s₁) (f' := (mkF m 97 #[.val (.int xa)] [(.int (1 : Int32))])) ?_ (fun _ k => XS.goto X0.here hx rfl (pc0 := 93) (pc' := 97) rfl (hb hby own_d2_93) (by decide) (by decide) k)
                    have em15 : (own_v2_33_s0 xa) = (1 : Int32) := (Eq.trans (if_neg hc33_4) (Eq.trans (if_neg hc40_6) (Eq.trans (if_neg hc47_8) (Eq.trans (if_neg hc54_10) (Eq.trans (if_neg hc61_12) (if_pos hc68_14))))))
                    exact ⟨_, ⟨s₁, _, (by rw [em15]), X0, e0, N0⟩, fun _ k => k⟩
                  · refine own_go (T' := s₁) (f' := (mkF m 71 #[.val (.int xa)] [])) ?_ (fun _ k => XS.icmpNo X0.here hx rfl (hb hby own_d2_68) rfl (feq hc68_14).1 k)
                    refine own_go (T' := s₁) (f' := (mkF m 72 #[.val (.int xa)] [(.int xa)])) ?_ (fun _ k => XS.iloadN X0.here hx rfl (hb hby own_d2_71) rfl  k)
                    refine own_go (T' := s₁) (f' := (mkF m 75 #[.val (.int xa)] [(.int (8239 : Int32)), (.int xa)])) ?_ (fun _ k => XS.sipush X0.here hx rfl (hb hby own_d2_72) k)
                    by_cases hc75_16 : xa = (8239 : Int32)
                    · refine own_go (T' := s₁) (f' := (mkF m 92 #[.val (.int xa)] [])) ?_ (fun _ k => XS.icmpYes X0.here hx rfl (pc0 := 75) (pc' := 92) rfl (hb hby own_d2_75) rfl (teq hc75_16).1 (by decide) (by decide) k)
                      refine own_go (T' := s₁) (f' := (mkF m 93 #[.val (.int xa)] [(.int (1 : Int32))])) ?_ (fun _ k => XS.iconst X0.here hx rfl (hb hby own_d2_92) k)
                      refine own_go (T' := s₁) (f' := (mkF m 97 #[.val (.int xa)] [(.int (1 : Int32))])) ?_ (fun _ k => XS.goto X0.here hx rfl (pc0 := 93) (pc' := 97) rfl (hb hby own_d2_93) (by decide) (by decide) k)
                      have em17 : (own_v2_33_s0 xa) = (1 : Int32) := (Eq.trans (if_neg hc33_4) (Eq.trans (if_neg hc40_6) (Eq.trans (if_neg hc47_8) (Eq.trans (if_neg hc54_10) (Eq.trans (if_neg hc61_12) (Eq.trans (if_neg hc68_14) (if_pos hc75_16)))))))
                      exact ⟨_, ⟨s₁, _, (by rw [em17]), X0, e0, N0⟩, fun _ k => k⟩
                    · refine own_go (T' := s₁) (f' := (mkF m 78 #[.val (.int xa)] [])) ?_ (fun _ k => XS.icmpNo X0.here hx rfl (hb hby own_d2_75) rfl (feq hc75_16).1 k)
                      refine own_go (T' := s₁) (f' := (mkF m 79 #[.val (.int xa)] [(.int xa)])) ?_ (fun _ k => XS.iloadN X0.here hx rfl (hb hby own_d2_78) rfl  k)
                      refine own_go (T' := s₁) (f' := (mkF m 82 #[.val (.int xa)] [(.int (8287 : Int32)), (.int xa)])) ?_ (fun _ k => XS.sipush X0.here hx rfl (hb hby own_d2_79) k)
                      by_cases hc82_18 : xa = (8287 : Int32)
                      · refine own_go (T' := s₁) (f' := (mkF m 92 #[.val (.int xa)] [])) ?_ (fun _ k => XS.icmpYes X0.here hx rfl (pc0 := 82) (pc' := 92) rfl (hb hby own_d2_82) rfl (teq hc82_18).1 (by decide) (by decide) k)
                        refine own_go (T' := s₁) (f' := (mkF m 93 #[.val (.int xa)] [(.int (1 : Int32))])) ?_ (fun _ k => XS.iconst X0.here hx rfl (hb hby own_d2_92) k)
                        refine own_go (T' := s₁) (f' := (mkF m 97 #[.val (.int xa)] [(.int (1 : Int32))])) ?_ (fun _ k => XS.goto X0.here hx rfl (pc0 := 93) (pc' := 97) rfl (hb hby own_d2_93) (by decide) (by decide) k)
                        have em19 : (own_v2_33_s0 xa) = (1 : Int32) := (Eq.trans (if_neg hc33_4) (Eq.trans (if_neg hc40_6) (Eq.trans (if_neg hc47_8) (Eq.trans (if_neg hc54_10) (Eq.trans (if_neg hc61_12) (Eq.trans (if_neg hc68_14) (Eq.trans (if_neg hc75_16) (if_pos hc82_18))))))))
                        exact ⟨_, ⟨s₁, _, (by rw [em19]), X0, e0, N0⟩, fun _ k => k⟩
                      · refine own_go (T' := s₁) (f' := (mkF m 85 #[.val (.int xa)] [])) ?_ (fun _ k => XS.icmpNo X0.here hx rfl (hb hby own_d2_82) rfl (feq hc82_18).1 k)
                        refine own_go (T' := s₁) (f' := (mkF m 86 #[.val (.int xa)] [(.int xa)])) ?_ (fun _ k => XS.iloadN X0.here hx rfl (hb hby own_d2_85) rfl  k)
                        refine own_go (T' := s₁) (f' := (mkF m 89 #[.val (.int xa)] [(.int (12288 : Int32)), (.int xa)])) ?_ (fun _ k => XS.sipush X0.here hx rfl (hb hby own_d2_86) k)
                        by_cases hc89_20 : xa = (12288 : Int32)
                        · refine own_go (T' := s₁) (f' := (mkF m 92 #[.val (.int xa)] [])) ?_ (fun _ k => XS.icmpNo X0.here hx rfl (hb hby own_d2_89) rfl (teq hc89_20).2 k)
                          refine own_go (T' := s₁) (f' := (mkF m 93 #[.val (.int xa)] [(.int (1 : Int32))])) ?_ (fun _ k => XS.iconst X0.here hx rfl (hb hby own_d2_92) k)
                          refine own_go (T' := s₁) (f' := (mkF m 97 #[.val (.int xa)] [(.int (1 : Int32))])) ?_ (fun _ k => XS.goto X0.here hx rfl (pc0 := 93) (pc' := 97) rfl (hb hby own_d2_93) (by decide) (by decide) k)
                          have em21 : (own_v2_33_s0 xa) = (1 : Int32) := (Eq.trans (if_neg hc33_4) (Eq.trans (if_neg hc40_6) (Eq.trans (if_neg hc47_8) (Eq.trans (if_neg hc54_10) (Eq.trans (if_neg hc61_12) (Eq.trans (if_neg hc68_14) (Eq.trans (if_neg hc75_16) (Eq.trans (if_neg hc82_18) (if_pos hc89_20)))))))))
                          exact ⟨_, ⟨s₁, _, (by rw [em21]), X0, e0, N0⟩, fun _ k => k⟩
                        · refine own_go (T' := s₁) (f' := (mkF m 96 #[.val (.int xa)] [])) ?_ (fun _ k => XS.icmpYes X0.here hx rfl (pc0 := 89) (pc' := 96) rfl (hb hby own_d2_89) rfl (feq hc89_20).2 (by decide) (by decide) k)
                          refine own_go (T' := s₁) (f' := (mkF m 97 #[.val (.int xa)] [(.int (0 : Int32))])) ?_ (fun _ k => XS.iconst X0.here hx rfl (hb hby own_d2_96) k)
                          have em22 : (own_v2_33_s0 xa) = (0 : Int32) := (Eq.trans (if_neg hc33_4) (Eq.trans (if_neg hc40_6) (Eq.trans (if_neg hc47_8) (Eq.trans (if_neg hc54_10) (Eq.trans (if_neg hc61_12) (Eq.trans (if_neg hc68_14) (Eq.trans (if_neg hc75_16) (Eq.trans (if_neg hc82_18) (if_neg hc89_20)))))))))
                          exact ⟨_, ⟨s₁, _, (by rw [em22]), X0, e0, N0⟩, fun _ k => k⟩
      refine own_go (T' := T3) (f' := (mkF m 97 #[.val (.int xa)] [(.int (own_v2_33_s0 xa))])) ?_ (mg3)
      obtain ⟨fs23, hr23, hrun23, hended23, hW23, hsame23⟩ := X3.leave (v := some (.int (own_v2_33_s0 xa))) (fun h => by rw [Bd.returns] at h; cases h)
      refine ⟨_, ⟨_, hrun23, hended23, _, _, rfl, ?_, ⟨_, rfl⟩, hW23, hsame23.mono (by decide) (by decide)⟩, fun _ k => (own_retZ X3 hx Bd.returns (own_b2_33_s0 xa) (hb hby own_d2_97) hr23).trans k⟩
      show own_Q2 Z xa h0 n0 _ T3.heap _
      rw [e3]
      exact ⟨(congrArg (fun z => some (Value.int z)) (show (own_v2_33_s0 xa) = (own_f2 xa) from ((Eq.trans (if_pos hc3_1) (if_pos hc18_2))).symm)), N3, rfl⟩
    · refine own_go (T' := s₁) (f' := (mkF m 21 #[.val (.int xa)] [])) ?_ (fun _ k => XS.icmpNo X0.here hx rfl (hb hby own_d2_18) rfl (flt hc18_2).1 k)
      refine own_go (T' := s₁) (f' := (mkF m 22 #[.val (.int xa)] [(.int xa)])) ?_ (fun _ k => XS.iloadN X0.here hx rfl (hb hby own_d2_21) rfl  k)
      refine own_go (T' := s₁) (f' := (mkF m 25 #[.val (.int xa)] [(.int (8202 : Int32)), (.int xa)])) ?_ (fun _ k => XS.sipush X0.here hx rfl (hb hby own_d2_22) k)
      by_cases hc25_24 : (8202 : Int32) < xa
      · refine own_go (T' := s₁) (f' := (mkF m 30 #[.val (.int xa)] [])) ?_ (fun _ k => XS.icmpYes X0.here hx rfl (pc0 := 25) (pc' := 30) rfl (hb hby own_d2_25) rfl (tlt hc25_24).2.2.1 (by decide) (by decide) k)
        refine own_go (T' := s₁) (f' := (mkF m 31 #[.val (.int xa)] [(.int xa)])) ?_ (fun _ k => XS.iloadN X0.here hx rfl (hb hby own_d2_30) rfl  k)
        refine own_go (T' := s₁) (f' := (mkF m 33 #[.val (.int xa)] [(.int (32 : Int32)), (.int xa)])) ?_ (fun _ k => XS.bipush X0.here hx rfl (hb hby own_d2_31) k)
        obtain ⟨_, ⟨T25, L25, rfl, X25, e25, N25⟩, mg25⟩ : own_Goes p.tables e below (fun uu => ∃ (T' : State) (L' : List Loc), uu = T'.setTop (mkF m 97 #[.val (.int xa)] [(.int (own_v2_33_s0 xa))]) ∧ Stand p l e own_room2 s m #[(.int xa)] below meth c T' L' 0 0 ∧ T'.heap = h0 ∧ Fr n0 L') s₁ (mkF m 33 #[.val (.int xa)] [(.int (32 : Int32)), (.int xa)]) := by
          by_cases hc33_26 : xa = (32 : Int32)
          · refine own_go (T' := s₁) (f' := (mkF m 92 #[.val (.int xa)] [])) ?_ (fun _ k => XS.icmpYes X0.here hx rfl (pc0 := 33) (pc' := 92) rfl (hb hby own_d2_33) rfl (teq hc33_26).1 (by decide) (by decide) k)
            refine own_go (T' := s₁) (f' := (mkF m 93 #[.val (.int xa)] [(.int (1 : Int32))])) ?_ (fun _ k => XS.iconst X0.here hx rfl (hb hby own_d2_92) k)
            refine own_go (T' := s₁) (f' := (mkF m 97 #[.val (.int xa)] [(.int (1 : Int32))])) ?_ (fun _ k => XS.goto X0.here hx rfl (pc0 := 93) (pc' := 97) rfl (hb hby own_d2_93) (by decide) (by decide) k)
            have em27 : (own_v2_33_s0 xa) = (1 : Int32) := (if_pos hc33_26)
            exact ⟨_, ⟨s₁, _, (by rw [em27]), X0, e0, N0⟩, fun _ k => k⟩
          · refine own_go (T' := s₁) (f' := (mkF m 36 #[.val (.int xa)] [])) ?_ (fun _ k => XS.icmpNo X0.here hx rfl (hb hby own_d2_33) rfl (feq hc33_26).1 k)
            refine own_go (T' := s₁) (f' := (mkF m 37 #[.val (.int xa)] [(.int xa)])) ?_ (fun _ k => XS.iloadN X0.here hx rfl (hb hby own_d2_36) rfl  k)
            refine own_go (T' := s₁) (f' := (mkF m 40 #[.val (.int xa)] [(.int (133 : Int32)), (.int xa)])) ?_ (fun _ k => XS.sipush X0.here hx rfl (hb hby own_d2_37) k)
            by_cases hc40_28 : xa = (133 : Int32)
            · refine own_go (T' := s₁) (f' := (mkF m 92 #[.val (.int xa)] [])) ?_ (fun _ k => XS.icmpYes X0.here hx rfl (pc0 := 40) (pc' := 92) rfl (hb hby own_d2_40) rfl (teq hc40_28).1 (by decide) (by decide) k)
              refine own_go (T' := s₁) (f' := (mkF m 93 #[.val (.int xa)] [(.int (1 : Int32))])) ?_ (fun _ k => XS.iconst X0.here hx rfl (hb hby own_d2_92) k)
              refine own_go (T' := s₁) (f' := (mkF m 97 #[.val (.int xa)] [(.int (1 : Int32))])) ?_ (fun _ k => XS.goto X0.here hx rfl (pc0 := 93) (pc' := 97) rfl (hb hby own_d2_93) (by decide) (by decide) k)
              have em29 : (own_v2_33_s0 xa) = (1 : Int32) := (Eq.trans (if_neg hc33_26) (if_pos hc40_28))
              exact ⟨_, ⟨s₁, _, (by rw [em29]), X0, e0, N0⟩, fun _ k => k⟩
            · refine own_go (T' := s₁) (f' := (mkF m 43 #[.val (.int xa)] [])) ?_ (fun _ k => XS.icmpNo X0.here hx rfl (hb hby own_d2_40) rfl (feq hc40_28).1 k)
              refine own_go (T' := s₁) (f' := (mkF m 44 #[.val (.int xa)] [(.int xa)])) ?_ (fun _ k => XS.iloadN X0.here hx rfl (hb hby own_d2_43) rfl  k)
              refine own_go (T' := s₁) (f' := (mkF m 47 #[.val (.int xa)] [(.int (160 : Int32)), (.int xa)])) ?_ (fun _ k => XS.sipush X0.here hx rfl (hb hby own_d2_44) k)
              by_cases hc47_30 : xa = (160 : Int32)
              · refine own_go (T' := s₁) (f' := (mkF m 92 #[.val (.int xa)] [])) ?_ (fun _ k => XS.icmpYes X0.here hx rfl (pc0 := 47) (pc' := 92) rfl (hb hby own_d2_47) rfl (teq hc47_30).1 (by decide) (by decide) k)
                refine own_go (T' := s₁) (f' := (mkF m 93 #[.val (.int xa)] [(.int (1 : Int32))])) ?_ (fun _ k => XS.iconst X0.here hx rfl (hb hby own_d2_92) k)
                refine own_go (T' := s₁) (f' := (mkF m 97 #[.val (.int xa)] [(.int (1 : Int32))])) ?_ (fun _ k => XS.goto X0.here hx rfl (pc0 := 93) (pc' := 97) rfl (hb hby own_d2_93) (by decide) (by decide) k)
                have em31 : (own_v2_33_s0 xa) = (1 : Int32) := (Eq.trans (if_neg hc33_26) (Eq.trans (if_neg hc40_28) (if_pos hc47_30)))
                exact ⟨_, ⟨s₁, _, (by rw [em31]), X0, e0, N0⟩, fun _ k => k⟩
              · refine own_go (T' := s₁) (f' := (mkF m 50 #[.val (.int xa)] [])) ?_ (fun _ k => XS.icmpNo X0.here hx rfl (hb hby own_d2_47) rfl (feq hc47_30).1 k)
                refine own_go (T' := s₁) (f' := (mkF m 51 #[.val (.int xa)] [(.int xa)])) ?_ (fun _ k => XS.iloadN X0.here hx rfl (hb hby own_d2_50) rfl  k)
                refine own_go (T' := s₁) (f' := (mkF m 54 #[.val (.int xa)] [(.int (5760 : Int32)), (.int xa)])) ?_ (fun _ k => XS.sipush X0.here hx rfl (hb hby own_d2_51) k)
                by_cases hc54_32 : xa = (5760 : Int32)
                · refine own_go (T' := s₁) (f' := (mkF m 92 #[.val (.int xa)] [])) ?_ (fun _ k => XS.icmpYes X0.here hx rfl (pc0 := 54) (pc' := 92) rfl (hb hby own_d2_54) rfl (teq hc54_32).1 (by decide) (by decide) k)
                  refine own_go (T' := s₁) (f' := (mkF m 93 #[.val (.int xa)] [(.int (1 : Int32))])) ?_ (fun _ k => XS.iconst X0.here hx rfl (hb hby own_d2_92) k)
                  refine own_go (T' := s₁) (f' := (mkF m 97 #[.val (.int xa)] [(.int (1 : Int32))])) ?_ (fun _ k => XS.goto X0.here hx rfl (pc0 := 93) (pc' := 97) rfl (hb hby own_d2_93) (by decide) (by decide) k)
                  have em33 : (own_v2_33_s0 xa) = (1 : Int32) := (Eq.trans (if_neg hc33_26) (Eq.trans (if_neg hc40_28) (Eq.trans (if_neg hc47_30) (if_pos hc54_32))))
                  exact ⟨_, ⟨s₁, _, (by rw [em33]), X0, e0, N0⟩, fun _ k => k⟩
                · refine own_go (T' := s₁) (f' := (mkF m 57 #[.val (.int xa)] [])) ?_ (fun _ k => XS.icmpNo X0.here hx rfl (hb hby own_d2_54) rfl (feq hc54_32).1 k)
                  refine own_go (T' := s₁) (f' := (mkF m 58 #[.val (.int xa)] [(.int xa)])) ?_ (fun _ k => XS.iloadN X0.here hx rfl (hb hby own_d2_57) rfl  k)
                  refine own_go (T' := s₁) (f' := (mkF m 61 #[.val (.int xa)] [(.int (8232 : Int32)), (.int xa)])) ?_ (fun _ k => XS.sipush X0.here hx rfl (hb hby own_d2_58) k)
                  by_cases hc61_34 : xa = (8232 : Int32)
                  · refine own_go (T' := s₁) (f' := (mkF m 92 #[.val (.int xa)] [])) ?_ (fun _ k => XS.icmpYes X0.here hx rfl (pc0 := 61) (pc' := 92) rfl (hb hby own_d2_61) rfl (teq hc61_34).1 (by decide) (by decide) k)
                    refine own_go (T' := s₁) (f' := (mkF m 93 #[.val (.int xa)] [(.int (1 : Int32))])) ?_ (fun _ k => XS.iconst X0.here hx rfl (hb hby own_d2_92) k)
                    refine own_go (T' := s₁) (f' := (mkF m 97 #[.val (.int xa)] [(.int (1 : Int32))])) ?_ (fun _ k => XS.goto X0.here hx rfl (pc0 := 93) (pc' := 97) rfl (hb hby own_d2_93) (by decide) (by decide) k)
                    have em35 : (own_v2_33_s0 xa) = (1 : Int32) := (Eq.trans (if_neg hc33_26) (Eq.trans (if_neg hc40_28) (Eq.trans (if_neg hc47_30) (Eq.trans (if_neg hc54_32) (if_pos hc61_34)))))
                    exact ⟨_, ⟨s₁, _, (by rw [em35]), X0, e0, N0⟩, fun _ k => k⟩
                  · refine own_go (T' := s₁) (f' := (mkF m 64 #[.val (.int xa)] [])) ?_ (fun _ k => XS.icmpNo X0.here hx rfl (hb hby own_d2_61) rfl (feq hc61_34).1 k)
                    refine own_go (T' := s₁) (f' := (mkF m 65 #[.val (.int xa)] [(.int xa)])) ?_ (fun _ k => XS.iloadN X0.here hx rfl (hb hby own_d2_64) rfl  k)
                    refine own_go (T' := s₁) (f' := (mkF m 68 #[.val (.int xa)] [(.int (8233 : Int32)), (.int xa)])) ?_ (fun _ k => XS.sipush X0.here hx rfl (hb hby own_d2_65) k)
                    by_cases hc68_36 : xa = (8233 : Int32)
                    · refine own_go (T' := s₁) (f' := (mkF m 92 #[.val (.int xa)] [])) ?_ (fun _ k => XS.icmpYes X0.here hx rfl (pc0 := 68) (pc' := 92) rfl (hb hby own_d2_68) rfl (teq hc68_36).1 (by decide) (by decide) k)
                      refine own_go (T' := s₁) (f' := (mkF m 93 #[.val (.int xa)] [(.int (1 : Int32))])) ?_ (fun _ k => XS.iconst X0.here hx rfl (hb hby own_d2_92) k)
                      refine own_go (T' := s₁) (f' := (mkF m 97 #[.val (.int xa)] [(.int (1 : Int32))])) ?_ (fun _ k => XS.goto X0.here hx rfl (pc0 := 93) (pc' := 97) rfl (hb hby own_d2_93) (by decide) (by decide) k)
                      have em37 : (own_v2_33_s0 xa) = (1 : Int32) := (Eq.trans (if_neg hc33_26) (Eq.trans (if_neg hc40_28) (Eq.trans (if_neg hc47_30) (Eq.trans (if_neg hc54_32) (Eq.trans (if_neg hc61_34) (if_pos hc68_36))))))
                      exact ⟨_, ⟨s₁, _, (by rw [em37]), X0, e0, N0⟩, fun _ k => k⟩
                    · refine own_go (T' := s₁) (f' := (mkF m 71 #[.val (.int xa)] [])) ?_ (fun _ k => XS.icmpNo X0.here hx rfl (hb hby own_d2_68) rfl (feq hc68_36).1 k)
                      refine own_go (T' := s₁) (f' := (mkF m 72 #[.val (.int xa)] [(.int xa)])) ?_ (fun _ k => XS.iloadN X0.here hx rfl (hb hby own_d2_71) rfl  k)
                      refine own_go (T' := s₁) (f' := (mkF m 75 #[.val (.int xa)] [(.int (8239 : Int32)), (.int xa)])) ?_ (fun _ k => XS.sipush X0.here hx rfl (hb hby own_d2_72) k)
                      by_cases hc75_38 : xa = (8239 : Int32)
                      · refine own_go (T' := s₁) (f' := (mkF m 92 #[.val (.int xa)] [])) ?_ (fun _ k => XS.icmpYes X0.here hx rfl (pc0 := 75) (pc' := 92) rfl (hb hby own_d2_75) rfl (teq hc75_38).1 (by decide) (by decide) k)
                        refine own_go (T' := s₁) (f' := (mkF m 93 #[.val (.int xa)] [(.int (1 : Int32))])) ?_ (fun _ k => XS.iconst X0.here hx rfl (hb hby own_d2_92) k)
                        refine own_go (T' := s₁) (f' := (mkF m 97 #[.val (.int xa)] [(.int (1 : Int32))])) ?_ (fun _ k => XS.goto X0.here hx rfl (pc0 := 93) (pc' := 97) rfl (hb hby own_d2_93) (by decide) (by decide) k)
                        have em39 : (own_v2_33_s0 xa) = (1 : Int32) := (Eq.trans (if_neg hc33_26) (Eq.trans (if_neg hc40_28) (Eq.trans (if_neg hc47_30) (Eq.trans (if_neg hc54_32) (Eq.trans (if_neg hc61_34) (Eq.trans (if_neg hc68_36) (if_pos hc75_38)))))))
                        exact ⟨_, ⟨s₁, _, (by rw [em39]), X0, e0, N0⟩, fun _ k => k⟩
                      · refine own_go (T' := s₁) (f' := (mkF m 78 #[.val (.int xa)] [])) ?_ (fun _ k => XS.icmpNo X0.here hx rfl (hb hby own_d2_75) rfl (feq hc75_38).1 k)
                        refine own_go (T' := s₁) (f' := (mkF m 79 #[.val (.int xa)] [(.int xa)])) ?_ (fun _ k => XS.iloadN X0.here hx rfl (hb hby own_d2_78) rfl  k)
                        refine own_go (T' := s₁) (f' := (mkF m 82 #[.val (.int xa)] [(.int (8287 : Int32)), (.int xa)])) ?_ (fun _ k => XS.sipush X0.here hx rfl (hb hby own_d2_79) k)
                        by_cases hc82_40 : xa = (8287 : Int32)
                        · refine own_go (T' := s₁) (f' := (mkF m 92 #[.val (.int xa)] [])) ?_ (fun _ k => XS.icmpYes X0.here hx rfl (pc0 := 82) (pc' := 92) rfl (hb hby own_d2_82) rfl (teq hc82_40).1 (by decide) (by decide) k)
                          refine own_go (T' := s₁) (f' := (mkF m 93 #[.val (.int xa)] [(.int (1 : Int32))])) ?_ (fun _ k => XS.iconst X0.here hx rfl (hb hby own_d2_92) k)
                          refine own_go (T' := s₁) (f' := (mkF m 97 #[.val (.int xa)] [(.int (1 : Int32))])) ?_ (fun _ k => XS.goto X0.here hx rfl (pc0 := 93) (pc' := 97) rfl (hb hby own_d2_93) (by decide) (by decide) k)
                          have em41 : (own_v2_33_s0 xa) = (1 : Int32) := (Eq.trans (if_neg hc33_26) (Eq.trans (if_neg hc40_28) (Eq.trans (if_neg hc47_30) (Eq.trans (if_neg hc54_32) (Eq.trans (if_neg hc61_34) (Eq.trans (if_neg hc68_36) (Eq.trans (if_neg hc75_38) (if_pos hc82_40))))))))
                          exact ⟨_, ⟨s₁, _, (by rw [em41]), X0, e0, N0⟩, fun _ k => k⟩
                        · refine own_go (T' := s₁) (f' := (mkF m 85 #[.val (.int xa)] [])) ?_ (fun _ k => XS.icmpNo X0.here hx rfl (hb hby own_d2_82) rfl (feq hc82_40).1 k)
                          refine own_go (T' := s₁) (f' := (mkF m 86 #[.val (.int xa)] [(.int xa)])) ?_ (fun _ k => XS.iloadN X0.here hx rfl (hb hby own_d2_85) rfl  k)
                          refine own_go (T' := s₁) (f' := (mkF m 89 #[.val (.int xa)] [(.int (12288 : Int32)), (.int xa)])) ?_ (fun _ k => XS.sipush X0.here hx rfl (hb hby own_d2_86) k)
                          by_cases hc89_42 : xa = (12288 : Int32)
                          · refine own_go (T' := s₁) (f' := (mkF m 92 #[.val (.int xa)] [])) ?_ (fun _ k => XS.icmpNo X0.here hx rfl (hb hby own_d2_89) rfl (teq hc89_42).2 k)
                            refine own_go (T' := s₁) (f' := (mkF m 93 #[.val (.int xa)] [(.int (1 : Int32))])) ?_ (fun _ k => XS.iconst X0.here hx rfl (hb hby own_d2_92) k)
                            refine own_go (T' := s₁) (f' := (mkF m 97 #[.val (.int xa)] [(.int (1 : Int32))])) ?_ (fun _ k => XS.goto X0.here hx rfl (pc0 := 93) (pc' := 97) rfl (hb hby own_d2_93) (by decide) (by decide) k)
                            have em43 : (own_v2_33_s0 xa) = (1 : Int32) := (Eq.trans (if_neg hc33_26) (Eq.trans (if_neg hc40_28) (Eq.trans (if_neg hc47_30) (Eq.trans (if_neg hc54_32) (Eq.trans (if_neg hc61_34) (Eq.trans (if_neg hc68_36) (Eq.trans (if_neg hc75_38) (Eq.trans (if_neg hc82_40) (if_pos hc89_42)))))))))
                            exact ⟨_, ⟨s₁, _, (by rw [em43]), X0, e0, N0⟩, fun _ k => k⟩
                          · refine own_go (T' := s₁) (f' := (mkF m 96 #[.val (.int xa)] [])) ?_ (fun _ k => XS.icmpYes X0.here hx rfl (pc0 := 89) (pc' := 96) rfl (hb hby own_d2_89) rfl (feq hc89_42).2 (by decide) (by decide) k)
                            refine own_go (T' := s₁) (f' := (mkF m 97 #[.val (.int xa)] [(.int (0 : Int32))])) ?_ (fun _ k => XS.iconst X0.here hx rfl (hb hby own_d2_96) k)
                            have em44 : (own_v2_33_s0 xa) = (0 : Int32) := (Eq.trans (if_neg hc33_26) (Eq.trans (if_neg hc40_28) (Eq.trans (if_neg hc47_30) (Eq.trans (if_neg hc54_32) (Eq.trans (if_neg hc61_34) (Eq.trans (if_neg hc68_36) (Eq.trans (if_neg hc75_38) (Eq.trans (if_neg hc82_40) (if_neg hc89_42)))))))))
                            exact ⟨_, ⟨s₁, _, (by rw [em44]), X0, e0, N0⟩, fun _ k => k⟩
        refine own_go (T' := T25) (f' := (mkF m 97 #[.val (.int xa)] [(.int (own_v2_33_s0 xa))])) ?_ (mg25)
        obtain ⟨fs45, hr45, hrun45, hended45, hW45, hsame45⟩ := X25.leave (v := some (.int (own_v2_33_s0 xa))) (fun h => by rw [Bd.returns] at h; cases h)
        refine ⟨_, ⟨_, hrun45, hended45, _, _, rfl, ?_, ⟨_, rfl⟩, hW45, hsame45.mono (by decide) (by decide)⟩, fun _ k => (own_retZ X25 hx Bd.returns (own_b2_33_s0 xa) (hb hby own_d2_97) hr45).trans k⟩
        show own_Q2 Z xa h0 n0 _ T25.heap _
        rw [e25]
        exact ⟨(congrArg (fun z => some (Value.int z)) (show (own_v2_33_s0 xa) = (own_f2 xa) from ((Eq.trans (if_pos hc3_1) (Eq.trans (if_neg hc18_2) (if_pos hc25_24)))).symm)), N25, rfl⟩
      · refine own_go (T' := s₁) (f' := (mkF m 28 #[.val (.int xa)] [])) ?_ (fun _ k => XS.icmpNo X0.here hx rfl (hb hby own_d2_25) rfl (flt hc25_24).2.2.1 k)
        refine own_go (T' := s₁) (f' := (mkF m 29 #[.val (.int xa)] [(.int (1 : Int32))])) ?_ (fun _ k => XS.iconst X0.here hx rfl (hb hby own_d2_28) k)
        obtain ⟨fs46, hr46, hrun46, hended46, hW46, hsame46⟩ := X0.leave (v := some (.int (1 : Int32))) (fun h => by rw [Bd.returns] at h; cases h)
        refine ⟨_, ⟨_, hrun46, hended46, _, _, rfl, ?_, ⟨_, rfl⟩, hW46, hsame46.mono (by decide) (by decide)⟩, fun _ k => (own_retZ X0 hx Bd.returns (by decide) (hb hby own_d2_29) hr46).trans k⟩
        show own_Q2 Z xa h0 n0 _ s₁.heap _
        rw [e0]
        exact ⟨(congrArg (fun z => some (Value.int z)) (show (1 : Int32) = (own_f2 xa) from ((Eq.trans (if_pos hc3_1) (Eq.trans (if_neg hc18_2) (if_neg hc25_24)))).symm)), N0, rfl⟩
  · refine own_go (T' := s₁) (f' := (mkF m 6 #[.val (.int xa)] [])) ?_ (fun _ k => XS.icmpNo X0.here hx rfl (hb hby own_d2_3) rfl (flt hc3_1).1 k)
    refine own_go (T' := s₁) (f' := (mkF m 7 #[.val (.int xa)] [(.int xa)])) ?_ (fun _ k => XS.iloadN X0.here hx rfl (hb hby own_d2_6) rfl  k)
    refine own_go (T' := s₁) (f' := (mkF m 9 #[.val (.int xa)] [(.int (13 : Int32)), (.int xa)])) ?_ (fun _ k => XS.bipush X0.here hx rfl (hb hby own_d2_7) k)
    by_cases hc9_47 : (13 : Int32) < xa
    · refine own_go (T' := s₁) (f' := (mkF m 14 #[.val (.int xa)] [])) ?_ (fun _ k => XS.icmpYes X0.here hx rfl (pc0 := 9) (pc' := 14) rfl (hb hby own_d2_9) rfl (tlt hc9_47).2.2.1 (by decide) (by decide) k)
      refine own_go (T' := s₁) (f' := (mkF m 15 #[.val (.int xa)] [(.int xa)])) ?_ (fun _ k => XS.iloadN X0.here hx rfl (hb hby own_d2_14) rfl  k)
      refine own_go (T' := s₁) (f' := (mkF m 18 #[.val (.int xa)] [(.int (8192 : Int32)), (.int xa)])) ?_ (fun _ k => XS.sipush X0.here hx rfl (hb hby own_d2_15) k)
      by_cases hc18_48 : xa < (8192 : Int32)
      · refine own_go (T' := s₁) (f' := (mkF m 30 #[.val (.int xa)] [])) ?_ (fun _ k => XS.icmpYes X0.here hx rfl (pc0 := 18) (pc' := 30) rfl (hb hby own_d2_18) rfl (tlt hc18_48).1 (by decide) (by decide) k)
        refine own_go (T' := s₁) (f' := (mkF m 31 #[.val (.int xa)] [(.int xa)])) ?_ (fun _ k => XS.iloadN X0.here hx rfl (hb hby own_d2_30) rfl  k)
        refine own_go (T' := s₁) (f' := (mkF m 33 #[.val (.int xa)] [(.int (32 : Int32)), (.int xa)])) ?_ (fun _ k => XS.bipush X0.here hx rfl (hb hby own_d2_31) k)
        obtain ⟨_, ⟨T49, L49, rfl, X49, e49, N49⟩, mg49⟩ : own_Goes p.tables e below (fun uu => ∃ (T' : State) (L' : List Loc), uu = T'.setTop (mkF m 97 #[.val (.int xa)] [(.int (own_v2_33_s0 xa))]) ∧ Stand p l e own_room2 s m #[(.int xa)] below meth c T' L' 0 0 ∧ T'.heap = h0 ∧ Fr n0 L') s₁ (mkF m 33 #[.val (.int xa)] [(.int (32 : Int32)), (.int xa)]) := by
          by_cases hc33_50 : xa = (32 : Int32)
          · refine own_go (T' := s₁) (f' := (mkF m 92 #[.val (.int xa)] [])) ?_ (fun _ k => XS.icmpYes X0.here hx rfl (pc0 := 33) (pc' := 92) rfl (hb hby own_d2_33) rfl (teq hc33_50).1 (by decide) (by decide) k)
            refine own_go (T' := s₁) (f' := (mkF m 93 #[.val (.int xa)] [(.int (1 : Int32))])) ?_ (fun _ k => XS.iconst X0.here hx rfl (hb hby own_d2_92) k)
            refine own_go (T' := s₁) (f' := (mkF m 97 #[.val (.int xa)] [(.int (1 : Int32))])) ?_ (fun _ k => XS.goto X0.here hx rfl (pc0 := 93) (pc' := 97) rfl (hb hby own_d2_93) (by decide) (by decide) k)
            have em51 : (own_v2_33_s0 xa) = (1 : Int32) := (if_pos hc33_50)
            exact ⟨_, ⟨s₁, _, (by rw [em51]), X0, e0, N0⟩, fun _ k => k⟩
          · refine own_go (T' := s₁) (f' := (mkF m 36 #[.val (.int xa)] [])) ?_ (fun _ k => XS.icmpNo X0.here hx rfl (hb hby own_d2_33) rfl (feq hc33_50).1 k)
            refine own_go (T' := s₁) (f' := (mkF m 37 #[.val (.int xa)] [(.int xa)])) ?_ (fun _ k => XS.iloadN X0.here hx rfl (hb hby own_d2_36) rfl  k)
            refine own_go (T' := s₁) (f' := (mkF m 40 #[.val (.int xa)] [(.int (133 : Int32)), (.int xa)])) ?_ (fun _ k => XS.sipush X0.here hx rfl (hb hby own_d2_37) k)
            by_cases hc40_52 : xa = (133 : Int32)
            · refine own_go (T' := s₁) (f' := (mkF m 92 #[.val (.int xa)] [])) ?_ (fun _ k => XS.icmpYes X0.here hx rfl (pc0 := 40) (pc' := 92) rfl (hb hby own_d2_40) rfl (teq hc40_52).1 (by decide) (by decide) k)
              refine own_go (T' := s₁) (f' := (mkF m 93 #[.val (.int xa)] [(.int (1 : Int32))])) ?_ (fun _ k => XS.iconst X0.here hx rfl (hb hby own_d2_92) k)
              refine own_go (T' := s₁) (f' := (mkF m 97 #[.val (.int xa)] [(.int (1 : Int32))])) ?_ (fun _ k => XS.goto X0.here hx rfl (pc0 := 93) (pc' := 97) rfl (hb hby own_d2_93) (by decide) (by decide) k)
              have em53 : (own_v2_33_s0 xa) = (1 : Int32) := (Eq.trans (if_neg hc33_50) (if_pos hc40_52))
              exact ⟨_, ⟨s₁, _, (by rw [em53]), X0, e0, N0⟩, fun _ k => k⟩
            · refine own_go (T' := s₁) (f' := (mkF m 43 #[.val (.int xa)] [])) ?_ (fun _ k => XS.icmpNo X0.here hx rfl (hb hby own_d2_40) rfl (feq hc40_52).1 k)
              refine own_go (T' := s₁) (f' := (mkF m 44 #[.val (.int xa)] [(.int xa)])) ?_ (fun _ k => XS.iloadN X0.here hx rfl (hb hby own_d2_43) rfl  k)
              refine own_go (T' := s₁) (f' := (mkF m 47 #[.val (.int xa)] [(.int (160 : Int32)), (.int xa)])) ?_ (fun _ k => XS.sipush X0.here hx rfl (hb hby own_d2_44) k)
              by_cases hc47_54 : xa = (160 : Int32)
              · refine own_go (T' := s₁) (f' := (mkF m 92 #[.val (.int xa)] [])) ?_ (fun _ k => XS.icmpYes X0.here hx rfl (pc0 := 47) (pc' := 92) rfl (hb hby own_d2_47) rfl (teq hc47_54).1 (by decide) (by decide) k)
                refine own_go (T' := s₁) (f' := (mkF m 93 #[.val (.int xa)] [(.int (1 : Int32))])) ?_ (fun _ k => XS.iconst X0.here hx rfl (hb hby own_d2_92) k)
                refine own_go (T' := s₁) (f' := (mkF m 97 #[.val (.int xa)] [(.int (1 : Int32))])) ?_ (fun _ k => XS.goto X0.here hx rfl (pc0 := 93) (pc' := 97) rfl (hb hby own_d2_93) (by decide) (by decide) k)
                have em55 : (own_v2_33_s0 xa) = (1 : Int32) := (Eq.trans (if_neg hc33_50) (Eq.trans (if_neg hc40_52) (if_pos hc47_54)))
                exact ⟨_, ⟨s₁, _, (by rw [em55]), X0, e0, N0⟩, fun _ k => k⟩
              · refine own_go (T' := s₁) (f' := (mkF m 50 #[.val (.int xa)] [])) ?_ (fun _ k => XS.icmpNo X0.here hx rfl (hb hby own_d2_47) rfl (feq hc47_54).1 k)
                refine own_go (T' := s₁) (f' := (mkF m 51 #[.val (.int xa)] [(.int xa)])) ?_ (fun _ k => XS.iloadN X0.here hx rfl (hb hby own_d2_50) rfl  k)
                refine own_go (T' := s₁) (f' := (mkF m 54 #[.val (.int xa)] [(.int (5760 : Int32)), (.int xa)])) ?_ (fun _ k => XS.sipush X0.here hx rfl (hb hby own_d2_51) k)
                by_cases hc54_56 : xa = (5760 : Int32)
                · refine own_go (T' := s₁) (f' := (mkF m 92 #[.val (.int xa)] [])) ?_ (fun _ k => XS.icmpYes X0.here hx rfl (pc0 := 54) (pc' := 92) rfl (hb hby own_d2_54) rfl (teq hc54_56).1 (by decide) (by decide) k)
                  refine own_go (T' := s₁) (f' := (mkF m 93 #[.val (.int xa)] [(.int (1 : Int32))])) ?_ (fun _ k => XS.iconst X0.here hx rfl (hb hby own_d2_92) k)
                  refine own_go (T' := s₁) (f' := (mkF m 97 #[.val (.int xa)] [(.int (1 : Int32))])) ?_ (fun _ k => XS.goto X0.here hx rfl (pc0 := 93) (pc' := 97) rfl (hb hby own_d2_93) (by decide) (by decide) k)
                  have em57 : (own_v2_33_s0 xa) = (1 : Int32) := (Eq.trans (if_neg hc33_50) (Eq.trans (if_neg hc40_52) (Eq.trans (if_neg hc47_54) (if_pos hc54_56))))
                  exact ⟨_, ⟨s₁, _, (by rw [em57]), X0, e0, N0⟩, fun _ k => k⟩
                · refine own_go (T' := s₁) (f' := (mkF m 57 #[.val (.int xa)] [])) ?_ (fun _ k => XS.icmpNo X0.here hx rfl (hb hby own_d2_54) rfl (feq hc54_56).1 k)
                  refine own_go (T' := s₁) (f' := (mkF m 58 #[.val (.int xa)] [(.int xa)])) ?_ (fun _ k => XS.iloadN X0.here hx rfl (hb hby own_d2_57) rfl  k)
                  refine own_go (T' := s₁) (f' := (mkF m 61 #[.val (.int xa)] [(.int (8232 : Int32)), (.int xa)])) ?_ (fun _ k => XS.sipush X0.here hx rfl (hb hby own_d2_58) k)
                  by_cases hc61_58 : xa = (8232 : Int32)
                  · refine own_go (T' := s₁) (f' := (mkF m 92 #[.val (.int xa)] [])) ?_ (fun _ k => XS.icmpYes X0.here hx rfl (pc0 := 61) (pc' := 92) rfl (hb hby own_d2_61) rfl (teq hc61_58).1 (by decide) (by decide) k)
                    refine own_go (T' := s₁) (f' := (mkF m 93 #[.val (.int xa)] [(.int (1 : Int32))])) ?_ (fun _ k => XS.iconst X0.here hx rfl (hb hby own_d2_92) k)
                    refine own_go (T' := s₁) (f' := (mkF m 97 #[.val (.int xa)] [(.int (1 : Int32))])) ?_ (fun _ k => XS.goto X0.here hx rfl (pc0 := 93) (pc' := 97) rfl (hb hby own_d2_93) (by decide) (by decide) k)
                    have em59 : (own_v2_33_s0 xa) = (1 : Int32) := (Eq.trans (if_neg hc33_50) (Eq.trans (if_neg hc40_52) (Eq.trans (if_neg hc47_54) (Eq.trans (if_neg hc54_56) (if_pos hc61_58)))))
                    exact ⟨_, ⟨s₁, _, (by rw [em59]), X0, e0, N0⟩, fun _ k => k⟩
                  · refine own_go (T' := s₁) (f' := (mkF m 64 #[.val (.int xa)] [])) ?_ (fun _ k => XS.icmpNo X0.here hx rfl (hb hby own_d2_61) rfl (feq hc61_58).1 k)
                    refine own_go (T' := s₁) (f' := (mkF m 65 #[.val (.int xa)] [(.int xa)])) ?_ (fun _ k => XS.iloadN X0.here hx rfl (hb hby own_d2_64) rfl  k)
                    refine own_go (T' := s₁) (f' := (mkF m 68 #[.val (.int xa)] [(.int (8233 : Int32)), (.int xa)])) ?_ (fun _ k => XS.sipush X0.here hx rfl (hb hby own_d2_65) k)
                    by_cases hc68_60 : xa = (8233 : Int32)
                    · refine own_go (T' := s₁) (f' := (mkF m 92 #[.val (.int xa)] [])) ?_ (fun _ k => XS.icmpYes X0.here hx rfl (pc0 := 68) (pc' := 92) rfl (hb hby own_d2_68) rfl (teq hc68_60).1 (by decide) (by decide) k)
                      refine own_go (T' := s₁) (f' := (mkF m 93 #[.val (.int xa)] [(.int (1 : Int32))])) ?_ (fun _ k => XS.iconst X0.here hx rfl (hb hby own_d2_92) k)
                      refine own_go (T' := s₁) (f' := (mkF m 97 #[.val (.int xa)] [(.int (1 : Int32))])) ?_ (fun _ k => XS.goto X0.here hx rfl (pc0 := 93) (pc' := 97) rfl (hb hby own_d2_93) (by decide) (by decide) k)
                      have em61 : (own_v2_33_s0 xa) = (1 : Int32) := (Eq.trans (if_neg hc33_50) (Eq.trans (if_neg hc40_52) (Eq.trans (if_neg hc47_54) (Eq.trans (if_neg hc54_56) (Eq.trans (if_neg hc61_58) (if_pos hc68_60))))))
                      exact ⟨_, ⟨s₁, _, (by rw [em61]), X0, e0, N0⟩, fun _ k => k⟩
                    · refine own_go (T' := s₁) (f' := (mkF m 71 #[.val (.int xa)] [])) ?_ (fun _ k => XS.icmpNo X0.here hx rfl (hb hby own_d2_68) rfl (feq hc68_60).1 k)
                      refine own_go (T' := s₁) (f' := (mkF m 72 #[.val (.int xa)] [(.int xa)])) ?_ (fun _ k => XS.iloadN X0.here hx rfl (hb hby own_d2_71) rfl  k)
                      refine own_go (T' := s₁) (f' := (mkF m 75 #[.val (.int xa)] [(.int (8239 : Int32)), (.int xa)])) ?_ (fun _ k => XS.sipush X0.here hx rfl (hb hby own_d2_72) k)
                      by_cases hc75_62 : xa = (8239 : Int32)
                      · refine own_go (T' := s₁) (f' := (mkF m 92 #[.val (.int xa)] [])) ?_ (fun _ k => XS.icmpYes X0.here hx rfl (pc0 := 75) (pc' := 92) rfl (hb hby own_d2_75) rfl (teq hc75_62).1 (by decide) (by decide) k)
                        refine own_go (T' := s₁) (f' := (mkF m 93 #[.val (.int xa)] [(.int (1 : Int32))])) ?_ (fun _ k => XS.iconst X0.here hx rfl (hb hby own_d2_92) k)
                        refine own_go (T' := s₁) (f' := (mkF m 97 #[.val (.int xa)] [(.int (1 : Int32))])) ?_ (fun _ k => XS.goto X0.here hx rfl (pc0 := 93) (pc' := 97) rfl (hb hby own_d2_93) (by decide) (by decide) k)
                        have em63 : (own_v2_33_s0 xa) = (1 : Int32) := (Eq.trans (if_neg hc33_50) (Eq.trans (if_neg hc40_52) (Eq.trans (if_neg hc47_54) (Eq.trans (if_neg hc54_56) (Eq.trans (if_neg hc61_58) (Eq.trans (if_neg hc68_60) (if_pos hc75_62)))))))
                        exact ⟨_, ⟨s₁, _, (by rw [em63]), X0, e0, N0⟩, fun _ k => k⟩
                      · refine own_go (T' := s₁) (f' := (mkF m 78 #[.val (.int xa)] [])) ?_ (fun _ k => XS.icmpNo X0.here hx rfl (hb hby own_d2_75) rfl (feq hc75_62).1 k)
                        refine own_go (T' := s₁) (f' := (mkF m 79 #[.val (.int xa)] [(.int xa)])) ?_ (fun _ k => XS.iloadN X0.here hx rfl (hb hby own_d2_78) rfl  k)
                        refine own_go (T' := s₁) (f' := (mkF m 82 #[.val (.int xa)] [(.int (8287 : Int32)), (.int xa)])) ?_ (fun _ k => XS.sipush X0.here hx rfl (hb hby own_d2_79) k)
                        by_cases hc82_64 : xa = (8287 : Int32)
                        · refine own_go (T' := s₁) (f' := (mkF m 92 #[.val (.int xa)] [])) ?_ (fun _ k => XS.icmpYes X0.here hx rfl (pc0 := 82) (pc' := 92) rfl (hb hby own_d2_82) rfl (teq hc82_64).1 (by decide) (by decide) k)
                          refine own_go (T' := s₁) (f' := (mkF m 93 #[.val (.int xa)] [(.int (1 : Int32))])) ?_ (fun _ k => XS.iconst X0.here hx rfl (hb hby own_d2_92) k)
                          refine own_go (T' := s₁) (f' := (mkF m 97 #[.val (.int xa)] [(.int (1 : Int32))])) ?_ (fun _ k => XS.goto X0.here hx rfl (pc0 := 93) (pc' := 97) rfl (hb hby own_d2_93) (by decide) (by decide) k)
                          have em65 : (own_v2_33_s0 xa) = (1 : Int32) := (Eq.trans (if_neg hc33_50) (Eq.trans (if_neg hc40_52) (Eq.trans (if_neg hc47_54) (Eq.trans (if_neg hc54_56) (Eq.trans (if_neg hc61_58) (Eq.trans (if_neg hc68_60) (Eq.trans (if_neg hc75_62) (if_pos hc82_64))))))))
                          exact ⟨_, ⟨s₁, _, (by rw [em65]), X0, e0, N0⟩, fun _ k => k⟩
                        · refine own_go (T' := s₁) (f' := (mkF m 85 #[.val (.int xa)] [])) ?_ (fun _ k => XS.icmpNo X0.here hx rfl (hb hby own_d2_82) rfl (feq hc82_64).1 k)
                          refine own_go (T' := s₁) (f' := (mkF m 86 #[.val (.int xa)] [(.int xa)])) ?_ (fun _ k => XS.iloadN X0.here hx rfl (hb hby own_d2_85) rfl  k)
                          refine own_go (T' := s₁) (f' := (mkF m 89 #[.val (.int xa)] [(.int (12288 : Int32)), (.int xa)])) ?_ (fun _ k => XS.sipush X0.here hx rfl (hb hby own_d2_86) k)
                          by_cases hc89_66 : xa = (12288 : Int32)
                          · refine own_go (T' := s₁) (f' := (mkF m 92 #[.val (.int xa)] [])) ?_ (fun _ k => XS.icmpNo X0.here hx rfl (hb hby own_d2_89) rfl (teq hc89_66).2 k)
                            refine own_go (T' := s₁) (f' := (mkF m 93 #[.val (.int xa)] [(.int (1 : Int32))])) ?_ (fun _ k => XS.iconst X0.here hx rfl (hb hby own_d2_92) k)
                            refine own_go (T' := s₁) (f' := (mkF m 97 #[.val (.int xa)] [(.int (1 : Int32))])) ?_ (fun _ k => XS.goto X0.here hx rfl (pc0 := 93) (pc' := 97) rfl (hb hby own_d2_93) (by decide) (by decide) k)
                            have em67 : (own_v2_33_s0 xa) = (1 : Int32) := (Eq.trans (if_neg hc33_50) (Eq.trans (if_neg hc40_52) (Eq.trans (if_neg hc47_54) (Eq.trans (if_neg hc54_56) (Eq.trans (if_neg hc61_58) (Eq.trans (if_neg hc68_60) (Eq.trans (if_neg hc75_62) (Eq.trans (if_neg hc82_64) (if_pos hc89_66)))))))))
                            exact ⟨_, ⟨s₁, _, (by rw [em67]), X0, e0, N0⟩, fun _ k => k⟩
                          · refine own_go (T' := s₁) (f' := (mkF m 96 #[.val (.int xa)] [])) ?_ (fun _ k => XS.icmpYes X0.here hx rfl (pc0 := 89) (pc' := 96) rfl (hb hby own_d2_89) rfl (feq hc89_66).2 (by decide) (by decide) k)
                            refine own_go (T' := s₁) (f' := (mkF m 97 #[.val (.int xa)] [(.int (0 : Int32))])) ?_ (fun _ k => XS.iconst X0.here hx rfl (hb hby own_d2_96) k)
                            have em68 : (own_v2_33_s0 xa) = (0 : Int32) := (Eq.trans (if_neg hc33_50) (Eq.trans (if_neg hc40_52) (Eq.trans (if_neg hc47_54) (Eq.trans (if_neg hc54_56) (Eq.trans (if_neg hc61_58) (Eq.trans (if_neg hc68_60) (Eq.trans (if_neg hc75_62) (Eq.trans (if_neg hc82_64) (if_neg hc89_66)))))))))
                            exact ⟨_, ⟨s₁, _, (by rw [em68]), X0, e0, N0⟩, fun _ k => k⟩
        refine own_go (T' := T49) (f' := (mkF m 97 #[.val (.int xa)] [(.int (own_v2_33_s0 xa))])) ?_ (mg49)
        obtain ⟨fs69, hr69, hrun69, hended69, hW69, hsame69⟩ := X49.leave (v := some (.int (own_v2_33_s0 xa))) (fun h => by rw [Bd.returns] at h; cases h)
        refine ⟨_, ⟨_, hrun69, hended69, _, _, rfl, ?_, ⟨_, rfl⟩, hW69, hsame69.mono (by decide) (by decide)⟩, fun _ k => (own_retZ X49 hx Bd.returns (own_b2_33_s0 xa) (hb hby own_d2_97) hr69).trans k⟩
        show own_Q2 Z xa h0 n0 _ T49.heap _
        rw [e49]
        exact ⟨(congrArg (fun z => some (Value.int z)) (show (own_v2_33_s0 xa) = (own_f2 xa) from ((Eq.trans (if_neg hc3_1) (Eq.trans (if_pos hc9_47) (if_pos hc18_48)))).symm)), N49, rfl⟩
      · refine own_go (T' := s₁) (f' := (mkF m 21 #[.val (.int xa)] [])) ?_ (fun _ k => XS.icmpNo X0.here hx rfl (hb hby own_d2_18) rfl (flt hc18_48).1 k)
        refine own_go (T' := s₁) (f' := (mkF m 22 #[.val (.int xa)] [(.int xa)])) ?_ (fun _ k => XS.iloadN X0.here hx rfl (hb hby own_d2_21) rfl  k)
        refine own_go (T' := s₁) (f' := (mkF m 25 #[.val (.int xa)] [(.int (8202 : Int32)), (.int xa)])) ?_ (fun _ k => XS.sipush X0.here hx rfl (hb hby own_d2_22) k)
        by_cases hc25_70 : (8202 : Int32) < xa
        · refine own_go (T' := s₁) (f' := (mkF m 30 #[.val (.int xa)] [])) ?_ (fun _ k => XS.icmpYes X0.here hx rfl (pc0 := 25) (pc' := 30) rfl (hb hby own_d2_25) rfl (tlt hc25_70).2.2.1 (by decide) (by decide) k)
          refine own_go (T' := s₁) (f' := (mkF m 31 #[.val (.int xa)] [(.int xa)])) ?_ (fun _ k => XS.iloadN X0.here hx rfl (hb hby own_d2_30) rfl  k)
          refine own_go (T' := s₁) (f' := (mkF m 33 #[.val (.int xa)] [(.int (32 : Int32)), (.int xa)])) ?_ (fun _ k => XS.bipush X0.here hx rfl (hb hby own_d2_31) k)
          obtain ⟨_, ⟨T71, L71, rfl, X71, e71, N71⟩, mg71⟩ : own_Goes p.tables e below (fun uu => ∃ (T' : State) (L' : List Loc), uu = T'.setTop (mkF m 97 #[.val (.int xa)] [(.int (own_v2_33_s0 xa))]) ∧ Stand p l e own_room2 s m #[(.int xa)] below meth c T' L' 0 0 ∧ T'.heap = h0 ∧ Fr n0 L') s₁ (mkF m 33 #[.val (.int xa)] [(.int (32 : Int32)), (.int xa)]) := by
            by_cases hc33_72 : xa = (32 : Int32)
            · refine own_go (T' := s₁) (f' := (mkF m 92 #[.val (.int xa)] [])) ?_ (fun _ k => XS.icmpYes X0.here hx rfl (pc0 := 33) (pc' := 92) rfl (hb hby own_d2_33) rfl (teq hc33_72).1 (by decide) (by decide) k)
              refine own_go (T' := s₁) (f' := (mkF m 93 #[.val (.int xa)] [(.int (1 : Int32))])) ?_ (fun _ k => XS.iconst X0.here hx rfl (hb hby own_d2_92) k)
              refine own_go (T' := s₁) (f' := (mkF m 97 #[.val (.int xa)] [(.int (1 : Int32))])) ?_ (fun _ k => XS.goto X0.here hx rfl (pc0 := 93) (pc' := 97) rfl (hb hby own_d2_93) (by decide) (by decide) k)
              have em73 : (own_v2_33_s0 xa) = (1 : Int32) := (if_pos hc33_72)
              exact ⟨_, ⟨s₁, _, (by rw [em73]), X0, e0, N0⟩, fun _ k => k⟩
            · refine own_go (T' := s₁) (f' := (mkF m 36 #[.val (.int xa)] [])) ?_ (fun _ k => XS.icmpNo X0.here hx rfl (hb hby own_d2_33) rfl (feq hc33_72).1 k)
              refine own_go (T' := s₁) (f' := (mkF m 37 #[.val (.int xa)] [(.int xa)])) ?_ (fun _ k => XS.iloadN X0.here hx rfl (hb hby own_d2_36) rfl  k)
              refine own_go (T' := s₁) (f' := (mkF m 40 #[.val (.int xa)] [(.int (133 : Int32)), (.int xa)])) ?_ (fun _ k => XS.sipush X0.here hx rfl (hb hby own_d2_37) k)
              by_cases hc40_74 : xa = (133 : Int32)
              · refine own_go (T' := s₁) (f' := (mkF m 92 #[.val (.int xa)] [])) ?_ (fun _ k => XS.icmpYes X0.here hx rfl (pc0 := 40) (pc' := 92) rfl (hb hby own_d2_40) rfl (teq hc40_74).1 (by decide) (by decide) k)
                refine own_go (T' := s₁) (f' := (mkF m 93 #[.val (.int xa)] [(.int (1 : Int32))])) ?_ (fun _ k => XS.iconst X0.here hx rfl (hb hby own_d2_92) k)
                refine own_go (T' := s₁) (f' := (mkF m 97 #[.val (.int xa)] [(.int (1 : Int32))])) ?_ (fun _ k => XS.goto X0.here hx rfl (pc0 := 93) (pc' := 97) rfl (hb hby own_d2_93) (by decide) (by decide) k)
                have em75 : (own_v2_33_s0 xa) = (1 : Int32) := (Eq.trans (if_neg hc33_72) (if_pos hc40_74))
                exact ⟨_, ⟨s₁, _, (by rw [em75]), X0, e0, N0⟩, fun _ k => k⟩
              · refine own_go (T' := s₁) (f' := (mkF m 43 #[.val (.int xa)] [])) ?_ (fun _ k => XS.icmpNo X0.here hx rfl (hb hby own_d2_40) rfl (feq hc40_74).1 k)
                refine own_go (T' := s₁) (f' := (mkF m 44 #[.val (.int xa)] [(.int xa)])) ?_ (fun _ k => XS.iloadN X0.here hx rfl (hb hby own_d2_43) rfl  k)
                refine own_go (T' := s₁) (f' := (mkF m 47 #[.val (.int xa)] [(.int (160 : Int32)), (.int xa)])) ?_ (fun _ k => XS.sipush X0.here hx rfl (hb hby own_d2_44) k)
                by_cases hc47_76 : xa = (160 : Int32)
                · refine own_go (T' := s₁) (f' := (mkF m 92 #[.val (.int xa)] [])) ?_ (fun _ k => XS.icmpYes X0.here hx rfl (pc0 := 47) (pc' := 92) rfl (hb hby own_d2_47) rfl (teq hc47_76).1 (by decide) (by decide) k)
                  refine own_go (T' := s₁) (f' := (mkF m 93 #[.val (.int xa)] [(.int (1 : Int32))])) ?_ (fun _ k => XS.iconst X0.here hx rfl (hb hby own_d2_92) k)
                  refine own_go (T' := s₁) (f' := (mkF m 97 #[.val (.int xa)] [(.int (1 : Int32))])) ?_ (fun _ k => XS.goto X0.here hx rfl (pc0 := 93) (pc' := 97) rfl (hb hby own_d2_93) (by decide) (by decide) k)
                  have em77 : (own_v2_33_s0 xa) = (1 : Int32) := (Eq.trans (if_neg hc33_72) (Eq.trans (if_neg hc40_74) (if_pos hc47_76)))
                  exact ⟨_, ⟨s₁, _, (by rw [em77]), X0, e0, N0⟩, fun _ k => k⟩
                · refine own_go (T' := s₁) (f' := (mkF m 50 #[.val (.int xa)] [])) ?_ (fun _ k => XS.icmpNo X0.here hx rfl (hb hby own_d2_47) rfl (feq hc47_76).1 k)
                  refine own_go (T' := s₁) (f' := (mkF m 51 #[.val (.int xa)] [(.int xa)])) ?_ (fun _ k => XS.iloadN X0.here hx rfl (hb hby own_d2_50) rfl  k)
                  refine own_go (T' := s₁) (f' := (mkF m 54 #[.val (.int xa)] [(.int (5760 : Int32)), (.int xa)])) ?_ (fun _ k => XS.sipush X0.here hx rfl (hb hby own_d2_51) k)
                  by_cases hc54_78 : xa = (5760 : Int32)
                  · refine own_go (T' := s₁) (f' := (mkF m 92 #[.val (.int xa)] [])) ?_ (fun _ k => XS.icmpYes X0.here hx rfl (pc0 := 54) (pc' := 92) rfl (hb hby own_d2_54) rfl (teq hc54_78).1 (by decide) (by decide) k)
                    refine own_go (T' := s₁) (f' := (mkF m 93 #[.val (.int xa)] [(.int (1 : Int32))])) ?_ (fun _ k => XS.iconst X0.here hx rfl (hb hby own_d2_92) k)
                    refine own_go (T' := s₁) (f' := (mkF m 97 #[.val (.int xa)] [(.int (1 : Int32))])) ?_ (fun _ k => XS.goto X0.here hx rfl (pc0 := 93) (pc' := 97) rfl (hb hby own_d2_93) (by decide) (by decide) k)
                    have em79 : (own_v2_33_s0 xa) = (1 : Int32) := (Eq.trans (if_neg hc33_72) (Eq.trans (if_neg hc40_74) (Eq.trans (if_neg hc47_76) (if_pos hc54_78))))
                    exact ⟨_, ⟨s₁, _, (by rw [em79]), X0, e0, N0⟩, fun _ k => k⟩
                  · refine own_go (T' := s₁) (f' := (mkF m 57 #[.val (.int xa)] [])) ?_ (fun _ k => XS.icmpNo X0.here hx rfl (hb hby own_d2_54) rfl (feq hc54_78).1 k)
                    refine own_go (T' := s₁) (f' := (mkF m 58 #[.val (.int xa)] [(.int xa)])) ?_ (fun _ k => XS.iloadN X0.here hx rfl (hb hby own_d2_57) rfl  k)
                    refine own_go (T' := s₁) (f' := (mkF m 61 #[.val (.int xa)] [(.int (8232 : Int32)), (.int xa)])) ?_ (fun _ k => XS.sipush X0.here hx rfl (hb hby own_d2_58) k)
                    by_cases hc61_80 : xa = (8232 : Int32)
                    · refine own_go (T' := s₁) (f' := (mkF m 92 #[.val (.int xa)] [])) ?_ (fun _ k => XS.icmpYes X0.here hx rfl (pc0 := 61) (pc' := 92) rfl (hb hby own_d2_61) rfl (teq hc61_80).1 (by decide) (by decide) k)
                      refine own_go (T' := s₁) (f' := (mkF m 93 #[.val (.int xa)] [(.int (1 : Int32))])) ?_ (fun _ k => XS.iconst X0.here hx rfl (hb hby own_d2_92) k)
                      refine own_go (T' := s₁) (f' := (mkF m 97 #[.val (.int xa)] [(.int (1 : Int32))])) ?_ (fun _ k => XS.goto X0.here hx rfl (pc0 := 93) (pc' := 97) rfl (hb hby own_d2_93) (by decide) (by decide) k)
                      have em81 : (own_v2_33_s0 xa) = (1 : Int32) := (Eq.trans (if_neg hc33_72) (Eq.trans (if_neg hc40_74) (Eq.trans (if_neg hc47_76) (Eq.trans (if_neg hc54_78) (if_pos hc61_80)))))
                      exact ⟨_, ⟨s₁, _, (by rw [em81]), X0, e0, N0⟩, fun _ k => k⟩
                    · refine own_go (T' := s₁) (f' := (mkF m 64 #[.val (.int xa)] [])) ?_ (fun _ k => XS.icmpNo X0.here hx rfl (hb hby own_d2_61) rfl (feq hc61_80).1 k)
                      refine own_go (T' := s₁) (f' := (mkF m 65 #[.val (.int xa)] [(.int xa)])) ?_ (fun _ k => XS.iloadN X0.here hx rfl (hb hby own_d2_64) rfl  k)
                      refine own_go (T' := s₁) (f' := (mkF m 68 #[.val (.int xa)] [(.int (8233 : Int32)), (.int xa)])) ?_ (fun _ k => XS.sipush X0.here hx rfl (hb hby own_d2_65) k)
                      by_cases hc68_82 : xa = (8233 : Int32)
                      · refine own_go (T' := s₁) (f' := (mkF m 92 #[.val (.int xa)] [])) ?_ (fun _ k => XS.icmpYes X0.here hx rfl (pc0 := 68) (pc' := 92) rfl (hb hby own_d2_68) rfl (teq hc68_82).1 (by decide) (by decide) k)
                        refine own_go (T' := s₁) (f' := (mkF m 93 #[.val (.int xa)] [(.int (1 : Int32))])) ?_ (fun _ k => XS.iconst X0.here hx rfl (hb hby own_d2_92) k)
                        refine own_go (T' := s₁) (f' := (mkF m 97 #[.val (.int xa)] [(.int (1 : Int32))])) ?_ (fun _ k => XS.goto X0.here hx rfl (pc0 := 93) (pc' := 97) rfl (hb hby own_d2_93) (by decide) (by decide) k)
                        have em83 : (own_v2_33_s0 xa) = (1 : Int32) := (Eq.trans (if_neg hc33_72) (Eq.trans (if_neg hc40_74) (Eq.trans (if_neg hc47_76) (Eq.trans (if_neg hc54_78) (Eq.trans (if_neg hc61_80) (if_pos hc68_82))))))
                        exact ⟨_, ⟨s₁, _, (by rw [em83]), X0, e0, N0⟩, fun _ k => k⟩
                      · refine own_go (T' := s₁) (f' := (mkF m 71 #[.val (.int xa)] [])) ?_ (fun _ k => XS.icmpNo X0.here hx rfl (hb hby own_d2_68) rfl (feq hc68_82).1 k)
                        refine own_go (T' := s₁) (f' := (mkF m 72 #[.val (.int xa)] [(.int xa)])) ?_ (fun _ k => XS.iloadN X0.here hx rfl (hb hby own_d2_71) rfl  k)
                        refine own_go (T' := s₁) (f' := (mkF m 75 #[.val (.int xa)] [(.int (8239 : Int32)), (.int xa)])) ?_ (fun _ k => XS.sipush X0.here hx rfl (hb hby own_d2_72) k)
                        by_cases hc75_84 : xa = (8239 : Int32)
                        · refine own_go (T' := s₁) (f' := (mkF m 92 #[.val (.int xa)] [])) ?_ (fun _ k => XS.icmpYes X0.here hx rfl (pc0 := 75) (pc' := 92) rfl (hb hby own_d2_75) rfl (teq hc75_84).1 (by decide) (by decide) k)
                          refine own_go (T' := s₁) (f' := (mkF m 93 #[.val (.int xa)] [(.int (1 : Int32))])) ?_ (fun _ k => XS.iconst X0.here hx rfl (hb hby own_d2_92) k)
                          refine own_go (T' := s₁) (f' := (mkF m 97 #[.val (.int xa)] [(.int (1 : Int32))])) ?_ (fun _ k => XS.goto X0.here hx rfl (pc0 := 93) (pc' := 97) rfl (hb hby own_d2_93) (by decide) (by decide) k)
                          have em85 : (own_v2_33_s0 xa) = (1 : Int32) := (Eq.trans (if_neg hc33_72) (Eq.trans (if_neg hc40_74) (Eq.trans (if_neg hc47_76) (Eq.trans (if_neg hc54_78) (Eq.trans (if_neg hc61_80) (Eq.trans (if_neg hc68_82) (if_pos hc75_84)))))))
                          exact ⟨_, ⟨s₁, _, (by rw [em85]), X0, e0, N0⟩, fun _ k => k⟩
                        · refine own_go (T' := s₁) (f' := (mkF m 78 #[.val (.int xa)] [])) ?_ (fun _ k => XS.icmpNo X0.here hx rfl (hb hby own_d2_75) rfl (feq hc75_84).1 k)
                          refine own_go (T' := s₁) (f' := (mkF m 79 #[.val (.int xa)] [(.int xa)])) ?_ (fun _ k => XS.iloadN X0.here hx rfl (hb hby own_d2_78) rfl  k)
                          refine own_go (T' := s₁) (f' := (mkF m 82 #[.val (.int xa)] [(.int (8287 : Int32)), (.int xa)])) ?_ (fun _ k => XS.sipush X0.here hx rfl (hb hby own_d2_79) k)
                          by_cases hc82_86 : xa = (8287 : Int32)
                          · refine own_go (T' := s₁) (f' := (mkF m 92 #[.val (.int xa)] [])) ?_ (fun _ k => XS.icmpYes X0.here hx rfl (pc0 := 82) (pc' := 92) rfl (hb hby own_d2_82) rfl (teq hc82_86).1 (by decide) (by decide) k)
                            refine own_go (T' := s₁) (f' := (mkF m 93 #[.val (.int xa)] [(.int (1 : Int32))])) ?_ (fun _ k => XS.iconst X0.here hx rfl (hb hby own_d2_92) k)
                            refine own_go (T' := s₁) (f' := (mkF m 97 #[.val (.int xa)] [(.int (1 : Int32))])) ?_ (fun _ k => XS.goto X0.here hx rfl (pc0 := 93) (pc' := 97) rfl (hb hby own_d2_93) (by decide) (by decide) k)
                            have em87 : (own_v2_33_s0 xa) = (1 : Int32) := (Eq.trans (if_neg hc33_72) (Eq.trans (if_neg hc40_74) (Eq.trans (if_neg hc47_76) (Eq.trans (if_neg hc54_78) (Eq.trans (if_neg hc61_80) (Eq.trans (if_neg hc68_82) (Eq.trans (if_neg hc75_84) (if_pos hc82_86))))))))
                            exact ⟨_, ⟨s₁, _, (by rw [em87]), X0, e0, N0⟩, fun _ k => k⟩
                          · refine own_go (T' := s₁) (f' := (mkF m 85 #[.val (.int xa)] [])) ?_ (fun _ k => XS.icmpNo X0.here hx rfl (hb hby own_d2_82) rfl (feq hc82_86).1 k)
                            refine own_go (T' := s₁) (f' := (mkF m 86 #[.val (.int xa)] [(.int xa)])) ?_ (fun _ k => XS.iloadN X0.here hx rfl (hb hby own_d2_85) rfl  k)
                            refine own_go (T' := s₁) (f' := (mkF m 89 #[.val (.int xa)] [(.int (12288 : Int32)), (.int xa)])) ?_ (fun _ k => XS.sipush X0.here hx rfl (hb hby own_d2_86) k)
                            by_cases hc89_88 : xa = (12288 : Int32)
                            · refine own_go (T' := s₁) (f' := (mkF m 92 #[.val (.int xa)] [])) ?_ (fun _ k => XS.icmpNo X0.here hx rfl (hb hby own_d2_89) rfl (teq hc89_88).2 k)
                              refine own_go (T' := s₁) (f' := (mkF m 93 #[.val (.int xa)] [(.int (1 : Int32))])) ?_ (fun _ k => XS.iconst X0.here hx rfl (hb hby own_d2_92) k)
                              refine own_go (T' := s₁) (f' := (mkF m 97 #[.val (.int xa)] [(.int (1 : Int32))])) ?_ (fun _ k => XS.goto X0.here hx rfl (pc0 := 93) (pc' := 97) rfl (hb hby own_d2_93) (by decide) (by decide) k)
                              have em89 : (own_v2_33_s0 xa) = (1 : Int32) := (Eq.trans (if_neg hc33_72) (Eq.trans (if_neg hc40_74) (Eq.trans (if_neg hc47_76) (Eq.trans (if_neg hc54_78) (Eq.trans (if_neg hc61_80) (Eq.trans (if_neg hc68_82) (Eq.trans (if_neg hc75_84) (Eq.trans (if_neg hc82_86) (if_pos hc89_88)))))))))
                              exact ⟨_, ⟨s₁, _, (by rw [em89]), X0, e0, N0⟩, fun _ k => k⟩
                            · refine own_go (T' := s₁) (f' := (mkF m 96 #[.val (.int xa)] [])) ?_ (fun _ k => XS.icmpYes X0.here hx rfl (pc0 := 89) (pc' := 96) rfl (hb hby own_d2_89) rfl (feq hc89_88).2 (by decide) (by decide) k)
                              refine own_go (T' := s₁) (f' := (mkF m 97 #[.val (.int xa)] [(.int (0 : Int32))])) ?_ (fun _ k => XS.iconst X0.here hx rfl (hb hby own_d2_96) k)
                              have em90 : (own_v2_33_s0 xa) = (0 : Int32) := (Eq.trans (if_neg hc33_72) (Eq.trans (if_neg hc40_74) (Eq.trans (if_neg hc47_76) (Eq.trans (if_neg hc54_78) (Eq.trans (if_neg hc61_80) (Eq.trans (if_neg hc68_82) (Eq.trans (if_neg hc75_84) (Eq.trans (if_neg hc82_86) (if_neg hc89_88)))))))))
                              exact ⟨_, ⟨s₁, _, (by rw [em90]), X0, e0, N0⟩, fun _ k => k⟩
          refine own_go (T' := T71) (f' := (mkF m 97 #[.val (.int xa)] [(.int (own_v2_33_s0 xa))])) ?_ (mg71)
          obtain ⟨fs91, hr91, hrun91, hended91, hW91, hsame91⟩ := X71.leave (v := some (.int (own_v2_33_s0 xa))) (fun h => by rw [Bd.returns] at h; cases h)
          refine ⟨_, ⟨_, hrun91, hended91, _, _, rfl, ?_, ⟨_, rfl⟩, hW91, hsame91.mono (by decide) (by decide)⟩, fun _ k => (own_retZ X71 hx Bd.returns (own_b2_33_s0 xa) (hb hby own_d2_97) hr91).trans k⟩
          show own_Q2 Z xa h0 n0 _ T71.heap _
          rw [e71]
          exact ⟨(congrArg (fun z => some (Value.int z)) (show (own_v2_33_s0 xa) = (own_f2 xa) from ((Eq.trans (if_neg hc3_1) (Eq.trans (if_pos hc9_47) (Eq.trans (if_neg hc18_48) (if_pos hc25_70))))).symm)), N71, rfl⟩
        · refine own_go (T' := s₁) (f' := (mkF m 28 #[.val (.int xa)] [])) ?_ (fun _ k => XS.icmpNo X0.here hx rfl (hb hby own_d2_25) rfl (flt hc25_70).2.2.1 k)
          refine own_go (T' := s₁) (f' := (mkF m 29 #[.val (.int xa)] [(.int (1 : Int32))])) ?_ (fun _ k => XS.iconst X0.here hx rfl (hb hby own_d2_28) k)
          obtain ⟨fs92, hr92, hrun92, hended92, hW92, hsame92⟩ := X0.leave (v := some (.int (1 : Int32))) (fun h => by rw [Bd.returns] at h; cases h)
          refine ⟨_, ⟨_, hrun92, hended92, _, _, rfl, ?_, ⟨_, rfl⟩, hW92, hsame92.mono (by decide) (by decide)⟩, fun _ k => (own_retZ X0 hx Bd.returns (by decide) (hb hby own_d2_29) hr92).trans k⟩
          show own_Q2 Z xa h0 n0 _ s₁.heap _
          rw [e0]
          exact ⟨(congrArg (fun z => some (Value.int z)) (show (1 : Int32) = (own_f2 xa) from ((Eq.trans (if_neg hc3_1) (Eq.trans (if_pos hc9_47) (Eq.trans (if_neg hc18_48) (if_neg hc25_70))))).symm)), N0, rfl⟩
    · refine own_go (T' := s₁) (f' := (mkF m 12 #[.val (.int xa)] [])) ?_ (fun _ k => XS.icmpNo X0.here hx rfl (hb hby own_d2_9) rfl (flt hc9_47).2.2.1 k)
      refine own_go (T' := s₁) (f' := (mkF m 13 #[.val (.int xa)] [(.int (1 : Int32))])) ?_ (fun _ k => XS.iconst X0.here hx rfl (hb hby own_d2_12) k)
      obtain ⟨fs93, hr93, hrun93, hended93, hW93, hsame93⟩ := X0.leave (v := some (.int (1 : Int32))) (fun h => by rw [Bd.returns] at h; cases h)
      refine ⟨_, ⟨_, hrun93, hended93, _, _, rfl, ?_, ⟨_, rfl⟩, hW93, hsame93.mono (by decide) (by decide)⟩, fun _ k => (own_retZ X0 hx Bd.returns (by decide) (hb hby own_d2_13) hr93).trans k⟩
      show own_Q2 Z xa h0 n0 _ s₁.heap _
      rw [e0]
      exact ⟨(congrArg (fun z => some (Value.int z)) (show (1 : Int32) = (own_f2 xa) from ((Eq.trans (if_neg hc3_1) (if_neg hc9_47))).symm)), N0, rfl⟩
theorem own_idx (xb : Int32) : ¬ (own_irem (xb &&& (2147483647 : Int32)) (22 : Int32)) < 0 ∧ (own_irem (xb &&& (2147483647 : Int32)) (22 : Int32)) < (22 : Int32) := by
  have e := own_rem31 xb (22 : Int32) (by decide)
  have e22 : (22 : Int32).toInt = 22 := rfl
  rw [e22] at e
  refine ⟨?_, ?_⟩ <;> rw [own_lt32, e] <;> first | (rw [show (0 : Int32).toInt = 0 from rfl]; omega) | (rw [e22]; omega)
theorem own_pd0 : parseMethodDescriptor "(I)Z" = some ⟨[.int], some .boolean⟩ := by decide +kernel
def own_v0_162 (xb : Int32) (xc : Int32) : Int32 := ((([(9 : Int32), (13 : Int32), (28 : Int32), (31 : Int32), (32 : Int32), (126 : Int32), (132 : Int32), (133 : Int32), (160 : Int32), (5760 : Int32), (6158 : Int32), (8192 : Int32), (8197 : Int32), (8202 : Int32), (8203 : Int32), (8232 : Int32), (8233 : Int32), (8239 : Int32), (8287 : Int32), (12288 : Int32), (65279 : Int32), (0 : Int32)].getD ((own_irem (xb &&& (2147483647 : Int32)) (22 : Int32))).toNatClampNeg 0) + (own_irem (xc &&& (2147483647 : Int32)) (5 : Int32))) - (2 : Int32))
def own_v0_172_s0 (xa : Int32) : Int32 := (if (own_f1 xa) = (own_f2 xa) then (1 : Int32) else (0 : Int32))
def own_v0_192_s0 (xb : Int32) (xc : Int32) : Int32 := (if (own_f1 (own_v0_162 xb xc)) = (own_f2 (own_v0_162 xb xc)) then (1 : Int32) else (0 : Int32))
def own_v0_204_s0 (xa : Int32) (xb : Int32) (xc : Int32) : Int32 := (if (own_v0_172_s0 xa) = (0 : Int32) then (0 : Int32) else (if (own_v0_192_s0 xb xc) = (0 : Int32) then (0 : Int32) else (1 : Int32)))
def own_f0 (xa : Int32) (xb : Int32) (xc : Int32) : Int32 := (own_v0_204_s0 xa xb xc)
theorem own_b0_204_s0 (xa : Int32) (xb : Int32) (xc : Int32) : (own_v0_204_s0 xa xb xc) &&& 1 = (own_v0_204_s0 xa xb xc) := (own_ite_bool (by decide) (own_ite_bool (by decide) (by decide)))
theorem own_bf0 (xa : Int32) (xb : Int32) (xc : Int32) : (own_f0 xa xb xc) &&& 1 = (own_f0 xa xb xc) := (own_b0_204_s0 xa xb xc)
theorem own_ef0 (m : MethodId) (xa : Int32) (xb : Int32) (xc : Int32) : entryFrame m #[(.int xa), (.int xb), (.int xc)] maxLocals = mkF m 0 #[.val (.int xa), .val (.int xb), .val (.int xc), .unset, .unset, .unset, .unset] [] := by first | (simp [entryFrame, mkF, argsToLocals, Value.category, maxLocals]; done) | rfl
def own_Q0 (Z : State) (xa : Int32) (xb : Int32) (xc : Int32) (h0 : Heap) (n0 : Nat) (v : Option Value) (h : Heap) (L : List Loc) : Prop := v = some (.int (own_f0 xa xb xc)) ∧ Fr n0 L
set_option maxRecDepth 65536 in
set_option maxHeartbeats 40000000 in
theorem own_rm0 (l : Launch) (Z : State) (a0 : Array Value) (hw : ∀ d ∈ tables_1, d.before a0 Z = true) (ws : List Jvm.Cond) (xa : Int32) (xb : Int32) (xc : Int32) (h0 : Heap) (n0 : Nat) (Z0 : n0 ≤ h0.size) :
    MetFree l x (head1 (Jvm.Cond.code x code maxLocals ret :: ws) room_1) (fun a U => a = #[(.int xa), (.int xb), (.int xc)] ∧ Z.Warmed39 U.vm ∧ U.heap = h0) (fun _ _ _ _ _ => True) (fun _ U o U' => ∃ v L, o = .returned v ∧ own_Q0 Z xa xb xc h0 n0 v U'.heap L ∧ FrameEnd U o U' L 16 128) := by
  refine MetFree.of_bodySF (plainFor_of_name own_pn1) hisR ?_
  intro p e s m args below meth c s₁ Bd hml0 hP hK
  obtain ⟨rfl, hZ, hh⟩ := hP
  have hx := Bd.exec
  have hby := Bd.bytes
  have hml : c.maxLocals = 7 := hml0
  have hown : s.vm.findClass "com/example/monitorgen/monitorgen/property/AlphabetIsWhitespacePinLaw" = some m.cls := findClass_of_methodNamed Bd.named
  have hnm := (name_of_methodNamed Bd.named Bd.method).1
  have X0 : Stand p l e room_1 s m #[(.int xa), (.int xb), (.int xc)] below meth c s₁ [] 0 0 := Stand.of_body Bd
  have e0 : s₁.heap = h0 := by rw [← hh, Bd.state]; rfl
  have N0 := Fr.nil n0
  refine own_out (Q := fun o U' => ∃ v L, o = .returned v ∧ own_Q0 Z xa xb xc h0 n0 v U'.heap L ∧ FrameEnd s o U' L 16 128) ?_
  refine own_go (T' := s₁) (f' := (mkF m 0 #[.val (.int xa), .val (.int xb), .val (.int xc), .unset, .unset, .unset, .unset] [])) ?_ (fun _ k => castTop (own_ef0 m xa xb xc) k)
  refine own_go (T' := s₁) (f' := (mkF m 2 #[.val (.int xa), .val (.int xb), .val (.int xc), .unset, .unset, .unset, .unset] [(.int (22 : Int32))])) ?_ (fun _ k => XS.bipush X0.here hx rfl (hb hby at_0) k)
  obtain ⟨T1, h1, k1, X1, e1, E1, A1, st1⟩ := newP X0 hx hZ (hw _ (List.mem_of_getElem? (i := 0) rfl)) e0 (g := (mkF m 2 #[.val (.int xa), .val (.int xb), .val (.int xc), .unset, .unset, .unset, .unset] [(.int (22 : Int32))])) rfl (hb hby at_2) rfl (by decide) (cap := 22) (by decide) (by decide) (by decide) (by decide)
  obtain ⟨b1, g1⟩ : ∃ z, z = h0.size := ⟨_, rfl⟩
  rw [← g1] at A1 st1
  have KK1 : Keep h0 h1 [] := (Keep.refl h0 []).ext E1
  have g_b1 : n0 ≤ b1 := Nat.le_trans Z0 (Nat.le_of_eq g1.symm)
  have sz_b1 : h0.size ≤ b1 := Nat.le_trans (Keep.refl h0 []).1 (Nat.le_of_eq g1.symm)
  have ZZ1 : n0 ≤ h1.size := Nat.le_trans Z0 E1.1
  have AA1 : own_AI Z h1 b1 .int (22 : Int32) [(0 : Int32), (0 : Int32), (0 : Int32), (0 : Int32), (0 : Int32), (0 : Int32), (0 : Int32), (0 : Int32), (0 : Int32), (0 : Int32), (0 : Int32), (0 : Int32), (0 : Int32), (0 : Int32), (0 : Int32), (0 : Int32), (0 : Int32), (0 : Int32), (0 : Int32), (0 : Int32), (0 : Int32), (0 : Int32)] := own_AI.new A1 (by decide) rfl
  refine own_go (T' := T1) (f' := (mkF m 4 #[.val (.int xa), .val (.int xb), .val (.int xc), .unset, .unset, .unset, .unset] [(.ref b1)])) ?_ (st1)
  refine own_go (T' := T1) (f' := (mkF m 5 #[.val (.int xa), .val (.int xb), .val (.int xc), .unset, .unset, .unset, .unset] [(.ref b1), (.ref b1)])) ?_ (fun _ k => XS.dup X1.here hx rfl (hb hby at_4) rfl rfl k)
  refine own_go (T' := T1) (f' := (mkF m 6 #[.val (.int xa), .val (.int xb), .val (.int xc), .unset, .unset, .unset, .unset] [(.int (0 : Int32)), (.ref b1), (.ref b1)])) ?_ (fun _ k => XS.iconst X1.here hx rfl (hb hby at_5) k)
  refine own_go (T' := T1) (f' := (mkF m 8 #[.val (.int xa), .val (.int xb), .val (.int xc), .unset, .unset, .unset, .unset] [(.int (9 : Int32)), (.int (0 : Int32)), (.ref b1), (.ref b1)])) ?_ (fun _ k => XS.bipush X1.here hx rfl (hb hby at_6) k)
  obtain ⟨T2, h2, X2, e2, W2, F2, st2⟩ := own_stI X1 hx hZ e1 AA1 (j := (0 : Int32)) ⟨by decide, by decide⟩ (g := (mkF m 8 #[.val (.int xa), .val (.int xb), .val (.int xc), .unset, .unset, .unset, .unset] [(.int (9 : Int32)), (.int (0 : Int32)), (.ref b1), (.ref b1)])) rfl rfl (hb hby at_8)
  have Fw2 : own_AI Z h2 b1 .int (22 : Int32) [(9 : Int32), (0 : Int32), (0 : Int32), (0 : Int32), (0 : Int32), (0 : Int32), (0 : Int32), (0 : Int32), (0 : Int32), (0 : Int32), (0 : Int32), (0 : Int32), (0 : Int32), (0 : Int32), (0 : Int32), (0 : Int32), (0 : Int32), (0 : Int32), (0 : Int32), (0 : Int32), (0 : Int32), (0 : Int32)] := F2
  have N2 := Fr.snoc X2 N0 g_b1
  have KK2 : Keep h0 h2 [] := KK1.wr W2 (Or.inr sz_b1)
  have ZZ2 : n0 ≤ h2.size := Nat.le_trans ZZ1 (Keep.of_wr W2).1
  refine own_go (T' := T2) (f' := (mkF m 9 #[.val (.int xa), .val (.int xb), .val (.int xc), .unset, .unset, .unset, .unset] [(.ref b1)])) ?_ (st2)
  refine own_go (T' := T2) (f' := (mkF m 10 #[.val (.int xa), .val (.int xb), .val (.int xc), .unset, .unset, .unset, .unset] [(.ref b1), (.ref b1)])) ?_ (fun _ k => XS.dup X2.here hx rfl (hb hby at_9) rfl rfl k)
  refine own_go (T' := T2) (f' := (mkF m 11 #[.val (.int xa), .val (.int xb), .val (.int xc), .unset, .unset, .unset, .unset] [(.int (1 : Int32)), (.ref b1), (.ref b1)])) ?_ (fun _ k => XS.iconst X2.here hx rfl (hb hby at_10) k)
  refine own_go (T' := T2) (f' := (mkF m 13 #[.val (.int xa), .val (.int xb), .val (.int xc), .unset, .unset, .unset, .unset] [(.int (13 : Int32)), (.int (1 : Int32)), (.ref b1), (.ref b1)])) ?_ (fun _ k => XS.bipush X2.here hx rfl (hb hby at_11) k)
  obtain ⟨T4, h4, X4, e4, W4, F4, st4⟩ := own_stI X2 hx hZ e2 Fw2 (j := (1 : Int32)) ⟨by decide, by decide⟩ (g := (mkF m 13 #[.val (.int xa), .val (.int xb), .val (.int xc), .unset, .unset, .unset, .unset] [(.int (13 : Int32)), (.int (1 : Int32)), (.ref b1), (.ref b1)])) rfl rfl (hb hby at_13)
  have Fw4 : own_AI Z h4 b1 .int (22 : Int32) [(9 : Int32), (13 : Int32), (0 : Int32), (0 : Int32), (0 : Int32), (0 : Int32), (0 : Int32), (0 : Int32), (0 : Int32), (0 : Int32), (0 : Int32), (0 : Int32), (0 : Int32), (0 : Int32), (0 : Int32), (0 : Int32), (0 : Int32), (0 : Int32), (0 : Int32), (0 : Int32), (0 : Int32), (0 : Int32)] := F4
  have N4 := Fr.snoc X4 N2 g_b1
  have KK4 : Keep h0 h4 [] := KK2.wr W4 (Or.inr sz_b1)
  have ZZ4 : n0 ≤ h4.size := Nat.le_trans ZZ2 (Keep.of_wr W4).1
  refine own_go (T' := T4) (f' := (mkF m 14 #[.val (.int xa), .val (.int xb), .val (.int xc), .unset, .unset, .unset, .unset] [(.ref b1)])) ?_ (st4)
  refine own_go (T' := T4) (f' := (mkF m 15 #[.val (.int xa), .val (.int xb), .val (.int xc), .unset, .unset, .unset, .unset] [(.ref b1), (.ref b1)])) ?_ (fun _ k => XS.dup X4.here hx rfl (hb hby at_14) rfl rfl k)
  refine own_go (T' := T4) (f' := (mkF m 16 #[.val (.int xa), .val (.int xb), .val (.int xc), .unset, .unset, .unset, .unset] [(.int (2 : Int32)), (.ref b1), (.ref b1)])) ?_ (fun _ k => XS.iconst X4.here hx rfl (hb hby at_15) k)
  refine own_go (T' := T4) (f' := (mkF m 18 #[.val (.int xa), .val (.int xb), .val (.int xc), .unset, .unset, .unset, .unset] [(.int (28 : Int32)), (.int (2 : Int32)), (.ref b1), (.ref b1)])) ?_ (fun _ k => XS.bipush X4.here hx rfl (hb hby at_16) k)
  obtain ⟨T6, h6, X6, e6, W6, F6, st6⟩ := own_stI X4 hx hZ e4 Fw4 (j := (2 : Int32)) ⟨by decide, by decide⟩ (g := (mkF m 18 #[.val (.int xa), .val (.int xb), .val (.int xc), .unset, .unset, .unset, .unset] [(.int (28 : Int32)), (.int (2 : Int32)), (.ref b1), (.ref b1)])) rfl rfl (hb hby at_18)
  have Fw6 : own_AI Z h6 b1 .int (22 : Int32) [(9 : Int32), (13 : Int32), (28 : Int32), (0 : Int32), (0 : Int32), (0 : Int32), (0 : Int32), (0 : Int32), (0 : Int32), (0 : Int32), (0 : Int32), (0 : Int32), (0 : Int32), (0 : Int32), (0 : Int32), (0 : Int32), (0 : Int32), (0 : Int32), (0 : Int32), (0 : Int32), (0 : Int32), (0 : Int32)] := F6
  have N6 := Fr.snoc X6 N4 g_b1
  have KK6 : Keep h0 h6 [] := KK4.wr W6 (Or.inr sz_b1)
  have ZZ6 : n0 ≤ h6.size := Nat.le_trans ZZ4 (Keep.of_wr W6).1
  refine own_go (T' := T6) (f' := (mkF m 19 #[.val (.int xa), .val (.int xb), .val (.int xc), .unset, .unset, .unset, .unset] [(.ref b1)])) ?_ (st6)
  refine own_go (T' := T6) (f' := (mkF m 20 #[.val (.int xa), .val (.int xb), .val (.int xc), .unset, .unset, .unset, .unset] [(.ref b1), (.ref b1)])) ?_ (fun _ k => XS.dup X6.here hx rfl (hb hby at_19) rfl rfl k)
  refine own_go (T' := T6) (f' := (mkF m 21 #[.val (.int xa), .val (.int xb), .val (.int xc), .unset, .unset, .unset, .unset] [(.int (3 : Int32)), (.ref b1), (.ref b1)])) ?_ (fun _ k => XS.iconst X6.here hx rfl (hb hby at_20) k)
  refine own_go (T' := T6) (f' := (mkF m 23 #[.val (.int xa), .val (.int xb), .val (.int xc), .unset, .unset, .unset, .unset] [(.int (31 : Int32)), (.int (3 : Int32)), (.ref b1), (.ref b1)])) ?_ (fun _ k => XS.bipush X6.here hx rfl (hb hby at_21) k)
  obtain ⟨T8, h8, X8, e8, W8, F8, st8⟩ := own_stI X6 hx hZ e6 Fw6 (j := (3 : Int32)) ⟨by decide, by decide⟩ (g := (mkF m 23 #[.val (.int xa), .val (.int xb), .val (.int xc), .unset, .unset, .unset, .unset] [(.int (31 : Int32)), (.int (3 : Int32)), (.ref b1), (.ref b1)])) rfl rfl (hb hby at_23)
  have Fw8 : own_AI Z h8 b1 .int (22 : Int32) [(9 : Int32), (13 : Int32), (28 : Int32), (31 : Int32), (0 : Int32), (0 : Int32), (0 : Int32), (0 : Int32), (0 : Int32), (0 : Int32), (0 : Int32), (0 : Int32), (0 : Int32), (0 : Int32), (0 : Int32), (0 : Int32), (0 : Int32), (0 : Int32), (0 : Int32), (0 : Int32), (0 : Int32), (0 : Int32)] := F8
  have N8 := Fr.snoc X8 N6 g_b1
  have KK8 : Keep h0 h8 [] := KK6.wr W8 (Or.inr sz_b1)
  have ZZ8 : n0 ≤ h8.size := Nat.le_trans ZZ6 (Keep.of_wr W8).1
  refine own_go (T' := T8) (f' := (mkF m 24 #[.val (.int xa), .val (.int xb), .val (.int xc), .unset, .unset, .unset, .unset] [(.ref b1)])) ?_ (st8)
  refine own_go (T' := T8) (f' := (mkF m 25 #[.val (.int xa), .val (.int xb), .val (.int xc), .unset, .unset, .unset, .unset] [(.ref b1), (.ref b1)])) ?_ (fun _ k => XS.dup X8.here hx rfl (hb hby at_24) rfl rfl k)
  refine own_go (T' := T8) (f' := (mkF m 26 #[.val (.int xa), .val (.int xb), .val (.int xc), .unset, .unset, .unset, .unset] [(.int (4 : Int32)), (.ref b1), (.ref b1)])) ?_ (fun _ k => XS.iconst X8.here hx rfl (hb hby at_25) k)
  refine own_go (T' := T8) (f' := (mkF m 28 #[.val (.int xa), .val (.int xb), .val (.int xc), .unset, .unset, .unset, .unset] [(.int (32 : Int32)), (.int (4 : Int32)), (.ref b1), (.ref b1)])) ?_ (fun _ k => XS.bipush X8.here hx rfl (hb hby at_26) k)
  obtain ⟨T10, h10, X10, e10, W10, F10, st10⟩ := own_stI X8 hx hZ e8 Fw8 (j := (4 : Int32)) ⟨by decide, by decide⟩ (g := (mkF m 28 #[.val (.int xa), .val (.int xb), .val (.int xc), .unset, .unset, .unset, .unset] [(.int (32 : Int32)), (.int (4 : Int32)), (.ref b1), (.ref b1)])) rfl rfl (hb hby at_28)
  have Fw10 : own_AI Z h10 b1 .int (22 : Int32) [(9 : Int32), (13 : Int32), (28 : Int32), (31 : Int32), (32 : Int32), (0 : Int32), (0 : Int32), (0 : Int32), (0 : Int32), (0 : Int32), (0 : Int32), (0 : Int32), (0 : Int32), (0 : Int32), (0 : Int32), (0 : Int32), (0 : Int32), (0 : Int32), (0 : Int32), (0 : Int32), (0 : Int32), (0 : Int32)] := F10
  have N10 := Fr.snoc X10 N8 g_b1
  have KK10 : Keep h0 h10 [] := KK8.wr W10 (Or.inr sz_b1)
  have ZZ10 : n0 ≤ h10.size := Nat.le_trans ZZ8 (Keep.of_wr W10).1
  refine own_go (T' := T10) (f' := (mkF m 29 #[.val (.int xa), .val (.int xb), .val (.int xc), .unset, .unset, .unset, .unset] [(.ref b1)])) ?_ (st10)
  refine own_go (T' := T10) (f' := (mkF m 30 #[.val (.int xa), .val (.int xb), .val (.int xc), .unset, .unset, .unset, .unset] [(.ref b1), (.ref b1)])) ?_ (fun _ k => XS.dup X10.here hx rfl (hb hby at_29) rfl rfl k)
  refine own_go (T' := T10) (f' := (mkF m 31 #[.val (.int xa), .val (.int xb), .val (.int xc), .unset, .unset, .unset, .unset] [(.int (5 : Int32)), (.ref b1), (.ref b1)])) ?_ (fun _ k => XS.iconst X10.here hx rfl (hb hby at_30) k)
  refine own_go (T' := T10) (f' := (mkF m 33 #[.val (.int xa), .val (.int xb), .val (.int xc), .unset, .unset, .unset, .unset] [(.int (126 : Int32)), (.int (5 : Int32)), (.ref b1), (.ref b1)])) ?_ (fun _ k => XS.bipush X10.here hx rfl (hb hby at_31) k)
  obtain ⟨T12, h12, X12, e12, W12, F12, st12⟩ := own_stI X10 hx hZ e10 Fw10 (j := (5 : Int32)) ⟨by decide, by decide⟩ (g := (mkF m 33 #[.val (.int xa), .val (.int xb), .val (.int xc), .unset, .unset, .unset, .unset] [(.int (126 : Int32)), (.int (5 : Int32)), (.ref b1), (.ref b1)])) rfl rfl (hb hby at_33)
  have Fw12 : own_AI Z h12 b1 .int (22 : Int32) [(9 : Int32), (13 : Int32), (28 : Int32), (31 : Int32), (32 : Int32), (126 : Int32), (0 : Int32), (0 : Int32), (0 : Int32), (0 : Int32), (0 : Int32), (0 : Int32), (0 : Int32), (0 : Int32), (0 : Int32), (0 : Int32), (0 : Int32), (0 : Int32), (0 : Int32), (0 : Int32), (0 : Int32), (0 : Int32)] := F12
  have N12 := Fr.snoc X12 N10 g_b1
  have KK12 : Keep h0 h12 [] := KK10.wr W12 (Or.inr sz_b1)
  have ZZ12 : n0 ≤ h12.size := Nat.le_trans ZZ10 (Keep.of_wr W12).1
  refine own_go (T' := T12) (f' := (mkF m 34 #[.val (.int xa), .val (.int xb), .val (.int xc), .unset, .unset, .unset, .unset] [(.ref b1)])) ?_ (st12)
  refine own_go (T' := T12) (f' := (mkF m 35 #[.val (.int xa), .val (.int xb), .val (.int xc), .unset, .unset, .unset, .unset] [(.ref b1), (.ref b1)])) ?_ (fun _ k => XS.dup X12.here hx rfl (hb hby at_34) rfl rfl k)
  refine own_go (T' := T12) (f' := (mkF m 37 #[.val (.int xa), .val (.int xb), .val (.int xc), .unset, .unset, .unset, .unset] [(.int (6 : Int32)), (.ref b1), (.ref b1)])) ?_ (fun _ k => XS.bipush X12.here hx rfl (hb hby at_35) k)
  refine own_go (T' := T12) (f' := (mkF m 40 #[.val (.int xa), .val (.int xb), .val (.int xc), .unset, .unset, .unset, .unset] [(.int (132 : Int32)), (.int (6 : Int32)), (.ref b1), (.ref b1)])) ?_ (fun _ k => XS.sipush X12.here hx rfl (hb hby at_37) k)
  obtain ⟨T14, h14, X14, e14, W14, F14, st14⟩ := own_stI X12 hx hZ e12 Fw12 (j := (6 : Int32)) ⟨by decide, by decide⟩ (g := (mkF m 40 #[.val (.int xa), .val (.int xb), .val (.int xc), .unset, .unset, .unset, .unset] [(.int (132 : Int32)), (.int (6 : Int32)), (.ref b1), (.ref b1)])) rfl rfl (hb hby at_40)
  have Fw14 : own_AI Z h14 b1 .int (22 : Int32) [(9 : Int32), (13 : Int32), (28 : Int32), (31 : Int32), (32 : Int32), (126 : Int32), (132 : Int32), (0 : Int32), (0 : Int32), (0 : Int32), (0 : Int32), (0 : Int32), (0 : Int32), (0 : Int32), (0 : Int32), (0 : Int32), (0 : Int32), (0 : Int32), (0 : Int32), (0 : Int32), (0 : Int32), (0 : Int32)] := F14
  have N14 := Fr.snoc X14 N12 g_b1
  have KK14 : Keep h0 h14 [] := KK12.wr W14 (Or.inr sz_b1)
  have ZZ14 : n0 ≤ h14.size := Nat.le_trans ZZ12 (Keep.of_wr W14).1
  refine own_go (T' := T14) (f' := (mkF m 41 #[.val (.int xa), .val (.int xb), .val (.int xc), .unset, .unset, .unset, .unset] [(.ref b1)])) ?_ (st14)
  refine own_go (T' := T14) (f' := (mkF m 42 #[.val (.int xa), .val (.int xb), .val (.int xc), .unset, .unset, .unset, .unset] [(.ref b1), (.ref b1)])) ?_ (fun _ k => XS.dup X14.here hx rfl (hb hby at_41) rfl rfl k)
  refine own_go (T' := T14) (f' := (mkF m 44 #[.val (.int xa), .val (.int xb), .val (.int xc), .unset, .unset, .unset, .unset] [(.int (7 : Int32)), (.ref b1), (.ref b1)])) ?_ (fun _ k => XS.bipush X14.here hx rfl (hb hby at_42) k)
  refine own_go (T' := T14) (f' := (mkF m 47 #[.val (.int xa), .val (.int xb), .val (.int xc), .unset, .unset, .unset, .unset] [(.int (133 : Int32)), (.int (7 : Int32)), (.ref b1), (.ref b1)])) ?_ (fun _ k => XS.sipush X14.here hx rfl (hb hby at_44) k)
  obtain ⟨T16, h16, X16, e16, W16, F16, st16⟩ := own_stI X14 hx hZ e14 Fw14 (j := (7 : Int32)) ⟨by decide, by decide⟩ (g := (mkF m 47 #[.val (.int xa), .val (.int xb), .val (.int xc), .unset, .unset, .unset, .unset] [(.int (133 : Int32)), (.int (7 : Int32)), (.ref b1), (.ref b1)])) rfl rfl (hb hby at_47)
  have Fw16 : own_AI Z h16 b1 .int (22 : Int32) [(9 : Int32), (13 : Int32), (28 : Int32), (31 : Int32), (32 : Int32), (126 : Int32), (132 : Int32), (133 : Int32), (0 : Int32), (0 : Int32), (0 : Int32), (0 : Int32), (0 : Int32), (0 : Int32), (0 : Int32), (0 : Int32), (0 : Int32), (0 : Int32), (0 : Int32), (0 : Int32), (0 : Int32), (0 : Int32)] := F16
  have N16 := Fr.snoc X16 N14 g_b1
  have KK16 : Keep h0 h16 [] := KK14.wr W16 (Or.inr sz_b1)
  have ZZ16 : n0 ≤ h16.size := Nat.le_trans ZZ14 (Keep.of_wr W16).1
  refine own_go (T' := T16) (f' := (mkF m 48 #[.val (.int xa), .val (.int xb), .val (.int xc), .unset, .unset, .unset, .unset] [(.ref b1)])) ?_ (st16)
  refine own_go (T' := T16) (f' := (mkF m 49 #[.val (.int xa), .val (.int xb), .val (.int xc), .unset, .unset, .unset, .unset] [(.ref b1), (.ref b1)])) ?_ (fun _ k => XS.dup X16.here hx rfl (hb hby at_48) rfl rfl k)
  refine own_go (T' := T16) (f' := (mkF m 51 #[.val (.int xa), .val (.int xb), .val (.int xc), .unset, .unset, .unset, .unset] [(.int (8 : Int32)), (.ref b1), (.ref b1)])) ?_ (fun _ k => XS.bipush X16.here hx rfl (hb hby at_49) k)
  refine own_go (T' := T16) (f' := (mkF m 54 #[.val (.int xa), .val (.int xb), .val (.int xc), .unset, .unset, .unset, .unset] [(.int (160 : Int32)), (.int (8 : Int32)), (.ref b1), (.ref b1)])) ?_ (fun _ k => XS.sipush X16.here hx rfl (hb hby at_51) k)
  obtain ⟨T18, h18, X18, e18, W18, F18, st18⟩ := own_stI X16 hx hZ e16 Fw16 (j := (8 : Int32)) ⟨by decide, by decide⟩ (g := (mkF m 54 #[.val (.int xa), .val (.int xb), .val (.int xc), .unset, .unset, .unset, .unset] [(.int (160 : Int32)), (.int (8 : Int32)), (.ref b1), (.ref b1)])) rfl rfl (hb hby at_54)
  have Fw18 : own_AI Z h18 b1 .int (22 : Int32) [(9 : Int32), (13 : Int32), (28 : Int32), (31 : Int32), (32 : Int32), (126 : Int32), (132 : Int32), (133 : Int32), (160 : Int32), (0 : Int32), (0 : Int32), (0 : Int32), (0 : Int32), (0 : Int32), (0 : Int32), (0 : Int32), (0 : Int32), (0 : Int32), (0 : Int32), (0 : Int32), (0 : Int32), (0 : Int32)] := F18
  have N18 := Fr.snoc X18 N16 g_b1
  have KK18 : Keep h0 h18 [] := KK16.wr W18 (Or.inr sz_b1)
  have ZZ18 : n0 ≤ h18.size := Nat.le_trans ZZ16 (Keep.of_wr W18).1
  refine own_go (T' := T18) (f' := (mkF m 55 #[.val (.int xa), .val (.int xb), .val (.int xc), .unset, .unset, .unset, .unset] [(.ref b1)])) ?_ (st18)
  refine own_go (T' := T18) (f' := (mkF m 56 #[.val (.int xa), .val (.int xb), .val (.int xc), .unset, .unset, .unset, .unset] [(.ref b1), (.ref b1)])) ?_ (fun _ k => XS.dup X18.here hx rfl (hb hby at_55) rfl rfl k)
  refine own_go (T' := T18) (f' := (mkF m 58 #[.val (.int xa), .val (.int xb), .val (.int xc), .unset, .unset, .unset, .unset] [(.int (9 : Int32)), (.ref b1), (.ref b1)])) ?_ (fun _ k => XS.bipush X18.here hx rfl (hb hby at_56) k)
  refine own_go (T' := T18) (f' := (mkF m 61 #[.val (.int xa), .val (.int xb), .val (.int xc), .unset, .unset, .unset, .unset] [(.int (5760 : Int32)), (.int (9 : Int32)), (.ref b1), (.ref b1)])) ?_ (fun _ k => XS.sipush X18.here hx rfl (hb hby at_58) k)
  obtain ⟨T20, h20, X20, e20, W20, F20, st20⟩ := own_stI X18 hx hZ e18 Fw18 (j := (9 : Int32)) ⟨by decide, by decide⟩ (g := (mkF m 61 #[.val (.int xa), .val (.int xb), .val (.int xc), .unset, .unset, .unset, .unset] [(.int (5760 : Int32)), (.int (9 : Int32)), (.ref b1), (.ref b1)])) rfl rfl (hb hby at_61)
  have Fw20 : own_AI Z h20 b1 .int (22 : Int32) [(9 : Int32), (13 : Int32), (28 : Int32), (31 : Int32), (32 : Int32), (126 : Int32), (132 : Int32), (133 : Int32), (160 : Int32), (5760 : Int32), (0 : Int32), (0 : Int32), (0 : Int32), (0 : Int32), (0 : Int32), (0 : Int32), (0 : Int32), (0 : Int32), (0 : Int32), (0 : Int32), (0 : Int32), (0 : Int32)] := F20
  have N20 := Fr.snoc X20 N18 g_b1
  have KK20 : Keep h0 h20 [] := KK18.wr W20 (Or.inr sz_b1)
  have ZZ20 : n0 ≤ h20.size := Nat.le_trans ZZ18 (Keep.of_wr W20).1
  refine own_go (T' := T20) (f' := (mkF m 62 #[.val (.int xa), .val (.int xb), .val (.int xc), .unset, .unset, .unset, .unset] [(.ref b1)])) ?_ (st20)
  refine own_go (T' := T20) (f' := (mkF m 63 #[.val (.int xa), .val (.int xb), .val (.int xc), .unset, .unset, .unset, .unset] [(.ref b1), (.ref b1)])) ?_ (fun _ k => XS.dup X20.here hx rfl (hb hby at_62) rfl rfl k)
  refine own_go (T' := T20) (f' := (mkF m 65 #[.val (.int xa), .val (.int xb), .val (.int xc), .unset, .unset, .unset, .unset] [(.int (10 : Int32)), (.ref b1), (.ref b1)])) ?_ (fun _ k => XS.bipush X20.here hx rfl (hb hby at_63) k)
  refine own_go (T' := T20) (f' := (mkF m 68 #[.val (.int xa), .val (.int xb), .val (.int xc), .unset, .unset, .unset, .unset] [(.int (6158 : Int32)), (.int (10 : Int32)), (.ref b1), (.ref b1)])) ?_ (fun _ k => XS.sipush X20.here hx rfl (hb hby at_65) k)
  obtain ⟨T22, h22, X22, e22, W22, F22, st22⟩ := own_stI X20 hx hZ e20 Fw20 (j := (10 : Int32)) ⟨by decide, by decide⟩ (g := (mkF m 68 #[.val (.int xa), .val (.int xb), .val (.int xc), .unset, .unset, .unset, .unset] [(.int (6158 : Int32)), (.int (10 : Int32)), (.ref b1), (.ref b1)])) rfl rfl (hb hby at_68)
  have Fw22 : own_AI Z h22 b1 .int (22 : Int32) [(9 : Int32), (13 : Int32), (28 : Int32), (31 : Int32), (32 : Int32), (126 : Int32), (132 : Int32), (133 : Int32), (160 : Int32), (5760 : Int32), (6158 : Int32), (0 : Int32), (0 : Int32), (0 : Int32), (0 : Int32), (0 : Int32), (0 : Int32), (0 : Int32), (0 : Int32), (0 : Int32), (0 : Int32), (0 : Int32)] := F22
  have N22 := Fr.snoc X22 N20 g_b1
  have KK22 : Keep h0 h22 [] := KK20.wr W22 (Or.inr sz_b1)
  have ZZ22 : n0 ≤ h22.size := Nat.le_trans ZZ20 (Keep.of_wr W22).1
  refine own_go (T' := T22) (f' := (mkF m 69 #[.val (.int xa), .val (.int xb), .val (.int xc), .unset, .unset, .unset, .unset] [(.ref b1)])) ?_ (st22)
  refine own_go (T' := T22) (f' := (mkF m 70 #[.val (.int xa), .val (.int xb), .val (.int xc), .unset, .unset, .unset, .unset] [(.ref b1), (.ref b1)])) ?_ (fun _ k => XS.dup X22.here hx rfl (hb hby at_69) rfl rfl k)
  refine own_go (T' := T22) (f' := (mkF m 72 #[.val (.int xa), .val (.int xb), .val (.int xc), .unset, .unset, .unset, .unset] [(.int (11 : Int32)), (.ref b1), (.ref b1)])) ?_ (fun _ k => XS.bipush X22.here hx rfl (hb hby at_70) k)
  refine own_go (T' := T22) (f' := (mkF m 75 #[.val (.int xa), .val (.int xb), .val (.int xc), .unset, .unset, .unset, .unset] [(.int (8192 : Int32)), (.int (11 : Int32)), (.ref b1), (.ref b1)])) ?_ (fun _ k => XS.sipush X22.here hx rfl (hb hby at_72) k)
  obtain ⟨T24, h24, X24, e24, W24, F24, st24⟩ := own_stI X22 hx hZ e22 Fw22 (j := (11 : Int32)) ⟨by decide, by decide⟩ (g := (mkF m 75 #[.val (.int xa), .val (.int xb), .val (.int xc), .unset, .unset, .unset, .unset] [(.int (8192 : Int32)), (.int (11 : Int32)), (.ref b1), (.ref b1)])) rfl rfl (hb hby at_75)
  have Fw24 : own_AI Z h24 b1 .int (22 : Int32) [(9 : Int32), (13 : Int32), (28 : Int32), (31 : Int32), (32 : Int32), (126 : Int32), (132 : Int32), (133 : Int32), (160 : Int32), (5760 : Int32), (6158 : Int32), (8192 : Int32), (0 : Int32), (0 : Int32), (0 : Int32), (0 : Int32), (0 : Int32), (0 : Int32), (0 : Int32), (0 : Int32), (0 : Int32), (0 : Int32)] := F24
  have N24 := Fr.snoc X24 N22 g_b1
  have KK24 : Keep h0 h24 [] := KK22.wr W24 (Or.inr sz_b1)
  have ZZ24 : n0 ≤ h24.size := Nat.le_trans ZZ22 (Keep.of_wr W24).1
  refine own_go (T' := T24) (f' := (mkF m 76 #[.val (.int xa), .val (.int xb), .val (.int xc), .unset, .unset, .unset, .unset] [(.ref b1)])) ?_ (st24)
  refine own_go (T' := T24) (f' := (mkF m 77 #[.val (.int xa), .val (.int xb), .val (.int xc), .unset, .unset, .unset, .unset] [(.ref b1), (.ref b1)])) ?_ (fun _ k => XS.dup X24.here hx rfl (hb hby at_76) rfl rfl k)
  refine own_go (T' := T24) (f' := (mkF m 79 #[.val (.int xa), .val (.int xb), .val (.int xc), .unset, .unset, .unset, .unset] [(.int (12 : Int32)), (.ref b1), (.ref b1)])) ?_ (fun _ k => XS.bipush X24.here hx rfl (hb hby at_77) k)
  refine own_go (T' := T24) (f' := (mkF m 82 #[.val (.int xa), .val (.int xb), .val (.int xc), .unset, .unset, .unset, .unset] [(.int (8197 : Int32)), (.int (12 : Int32)), (.ref b1), (.ref b1)])) ?_ (fun _ k => XS.sipush X24.here hx rfl (hb hby at_79) k)
  obtain ⟨T26, h26, X26, e26, W26, F26, st26⟩ := own_stI X24 hx hZ e24 Fw24 (j := (12 : Int32)) ⟨by decide, by decide⟩ (g := (mkF m 82 #[.val (.int xa), .val (.int xb), .val (.int xc), .unset, .unset, .unset, .unset] [(.int (8197 : Int32)), (.int (12 : Int32)), (.ref b1), (.ref b1)])) rfl rfl (hb hby at_82)
  have Fw26 : own_AI Z h26 b1 .int (22 : Int32) [(9 : Int32), (13 : Int32), (28 : Int32), (31 : Int32), (32 : Int32), (126 : Int32), (132 : Int32), (133 : Int32), (160 : Int32), (5760 : Int32), (6158 : Int32), (8192 : Int32), (8197 : Int32), (0 : Int32), (0 : Int32), (0 : Int32), (0 : Int32), (0 : Int32), (0 : Int32), (0 : Int32), (0 : Int32), (0 : Int32)] := F26
  have N26 := Fr.snoc X26 N24 g_b1
  have KK26 : Keep h0 h26 [] := KK24.wr W26 (Or.inr sz_b1)
  have ZZ26 : n0 ≤ h26.size := Nat.le_trans ZZ24 (Keep.of_wr W26).1
  refine own_go (T' := T26) (f' := (mkF m 83 #[.val (.int xa), .val (.int xb), .val (.int xc), .unset, .unset, .unset, .unset] [(.ref b1)])) ?_ (st26)
  refine own_go (T' := T26) (f' := (mkF m 84 #[.val (.int xa), .val (.int xb), .val (.int xc), .unset, .unset, .unset, .unset] [(.ref b1), (.ref b1)])) ?_ (fun _ k => XS.dup X26.here hx rfl (hb hby at_83) rfl rfl k)
  refine own_go (T' := T26) (f' := (mkF m 86 #[.val (.int xa), .val (.int xb), .val (.int xc), .unset, .unset, .unset, .unset] [(.int (13 : Int32)), (.ref b1), (.ref b1)])) ?_ (fun _ k => XS.bipush X26.here hx rfl (hb hby at_84) k)
  refine own_go (T' := T26) (f' := (mkF m 89 #[.val (.int xa), .val (.int xb), .val (.int xc), .unset, .unset, .unset, .unset] [(.int (8202 : Int32)), (.int (13 : Int32)), (.ref b1), (.ref b1)])) ?_ (fun _ k => XS.sipush X26.here hx rfl (hb hby at_86) k)
  obtain ⟨T28, h28, X28, e28, W28, F28, st28⟩ := own_stI X26 hx hZ e26 Fw26 (j := (13 : Int32)) ⟨by decide, by decide⟩ (g := (mkF m 89 #[.val (.int xa), .val (.int xb), .val (.int xc), .unset, .unset, .unset, .unset] [(.int (8202 : Int32)), (.int (13 : Int32)), (.ref b1), (.ref b1)])) rfl rfl (hb hby at_89)
  have Fw28 : own_AI Z h28 b1 .int (22 : Int32) [(9 : Int32), (13 : Int32), (28 : Int32), (31 : Int32), (32 : Int32), (126 : Int32), (132 : Int32), (133 : Int32), (160 : Int32), (5760 : Int32), (6158 : Int32), (8192 : Int32), (8197 : Int32), (8202 : Int32), (0 : Int32), (0 : Int32), (0 : Int32), (0 : Int32), (0 : Int32), (0 : Int32), (0 : Int32), (0 : Int32)] := F28
  have N28 := Fr.snoc X28 N26 g_b1
  have KK28 : Keep h0 h28 [] := KK26.wr W28 (Or.inr sz_b1)
  have ZZ28 : n0 ≤ h28.size := Nat.le_trans ZZ26 (Keep.of_wr W28).1
  refine own_go (T' := T28) (f' := (mkF m 90 #[.val (.int xa), .val (.int xb), .val (.int xc), .unset, .unset, .unset, .unset] [(.ref b1)])) ?_ (st28)
  refine own_go (T' := T28) (f' := (mkF m 91 #[.val (.int xa), .val (.int xb), .val (.int xc), .unset, .unset, .unset, .unset] [(.ref b1), (.ref b1)])) ?_ (fun _ k => XS.dup X28.here hx rfl (hb hby at_90) rfl rfl k)
  refine own_go (T' := T28) (f' := (mkF m 93 #[.val (.int xa), .val (.int xb), .val (.int xc), .unset, .unset, .unset, .unset] [(.int (14 : Int32)), (.ref b1), (.ref b1)])) ?_ (fun _ k => XS.bipush X28.here hx rfl (hb hby at_91) k)
  refine own_go (T' := T28) (f' := (mkF m 96 #[.val (.int xa), .val (.int xb), .val (.int xc), .unset, .unset, .unset, .unset] [(.int (8203 : Int32)), (.int (14 : Int32)), (.ref b1), (.ref b1)])) ?_ (fun _ k => XS.sipush X28.here hx rfl (hb hby at_93) k)
  obtain ⟨T30, h30, X30, e30, W30, F30, st30⟩ := own_stI X28 hx hZ e28 Fw28 (j := (14 : Int32)) ⟨by decide, by decide⟩ (g := (mkF m 96 #[.val (.int xa), .val (.int xb), .val (.int xc), .unset, .unset, .unset, .unset] [(.int (8203 : Int32)), (.int (14 : Int32)), (.ref b1), (.ref b1)])) rfl rfl (hb hby at_96)
  have Fw30 : own_AI Z h30 b1 .int (22 : Int32) [(9 : Int32), (13 : Int32), (28 : Int32), (31 : Int32), (32 : Int32), (126 : Int32), (132 : Int32), (133 : Int32), (160 : Int32), (5760 : Int32), (6158 : Int32), (8192 : Int32), (8197 : Int32), (8202 : Int32), (8203 : Int32), (0 : Int32), (0 : Int32), (0 : Int32), (0 : Int32), (0 : Int32), (0 : Int32), (0 : Int32)] := F30
  have N30 := Fr.snoc X30 N28 g_b1
  have KK30 : Keep h0 h30 [] := KK28.wr W30 (Or.inr sz_b1)
  have ZZ30 : n0 ≤ h30.size := Nat.le_trans ZZ28 (Keep.of_wr W30).1
  refine own_go (T' := T30) (f' := (mkF m 97 #[.val (.int xa), .val (.int xb), .val (.int xc), .unset, .unset, .unset, .unset] [(.ref b1)])) ?_ (st30)
  refine own_go (T' := T30) (f' := (mkF m 98 #[.val (.int xa), .val (.int xb), .val (.int xc), .unset, .unset, .unset, .unset] [(.ref b1), (.ref b1)])) ?_ (fun _ k => XS.dup X30.here hx rfl (hb hby at_97) rfl rfl k)
  refine own_go (T' := T30) (f' := (mkF m 100 #[.val (.int xa), .val (.int xb), .val (.int xc), .unset, .unset, .unset, .unset] [(.int (15 : Int32)), (.ref b1), (.ref b1)])) ?_ (fun _ k => XS.bipush X30.here hx rfl (hb hby at_98) k)
  refine own_go (T' := T30) (f' := (mkF m 103 #[.val (.int xa), .val (.int xb), .val (.int xc), .unset, .unset, .unset, .unset] [(.int (8232 : Int32)), (.int (15 : Int32)), (.ref b1), (.ref b1)])) ?_ (fun _ k => XS.sipush X30.here hx rfl (hb hby at_100) k)
  obtain ⟨T32, h32, X32, e32, W32, F32, st32⟩ := own_stI X30 hx hZ e30 Fw30 (j := (15 : Int32)) ⟨by decide, by decide⟩ (g := (mkF m 103 #[.val (.int xa), .val (.int xb), .val (.int xc), .unset, .unset, .unset, .unset] [(.int (8232 : Int32)), (.int (15 : Int32)), (.ref b1), (.ref b1)])) rfl rfl (hb hby at_103)
  have Fw32 : own_AI Z h32 b1 .int (22 : Int32) [(9 : Int32), (13 : Int32), (28 : Int32), (31 : Int32), (32 : Int32), (126 : Int32), (132 : Int32), (133 : Int32), (160 : Int32), (5760 : Int32), (6158 : Int32), (8192 : Int32), (8197 : Int32), (8202 : Int32), (8203 : Int32), (8232 : Int32), (0 : Int32), (0 : Int32), (0 : Int32), (0 : Int32), (0 : Int32), (0 : Int32)] := F32
  have N32 := Fr.snoc X32 N30 g_b1
  have KK32 : Keep h0 h32 [] := KK30.wr W32 (Or.inr sz_b1)
  have ZZ32 : n0 ≤ h32.size := Nat.le_trans ZZ30 (Keep.of_wr W32).1
  refine own_go (T' := T32) (f' := (mkF m 104 #[.val (.int xa), .val (.int xb), .val (.int xc), .unset, .unset, .unset, .unset] [(.ref b1)])) ?_ (st32)
  refine own_go (T' := T32) (f' := (mkF m 105 #[.val (.int xa), .val (.int xb), .val (.int xc), .unset, .unset, .unset, .unset] [(.ref b1), (.ref b1)])) ?_ (fun _ k => XS.dup X32.here hx rfl (hb hby at_104) rfl rfl k)
  refine own_go (T' := T32) (f' := (mkF m 107 #[.val (.int xa), .val (.int xb), .val (.int xc), .unset, .unset, .unset, .unset] [(.int (16 : Int32)), (.ref b1), (.ref b1)])) ?_ (fun _ k => XS.bipush X32.here hx rfl (hb hby at_105) k)
  refine own_go (T' := T32) (f' := (mkF m 110 #[.val (.int xa), .val (.int xb), .val (.int xc), .unset, .unset, .unset, .unset] [(.int (8233 : Int32)), (.int (16 : Int32)), (.ref b1), (.ref b1)])) ?_ (fun _ k => XS.sipush X32.here hx rfl (hb hby at_107) k)
  obtain ⟨T34, h34, X34, e34, W34, F34, st34⟩ := own_stI X32 hx hZ e32 Fw32 (j := (16 : Int32)) ⟨by decide, by decide⟩ (g := (mkF m 110 #[.val (.int xa), .val (.int xb), .val (.int xc), .unset, .unset, .unset, .unset] [(.int (8233 : Int32)), (.int (16 : Int32)), (.ref b1), (.ref b1)])) rfl rfl (hb hby at_110)
  have Fw34 : own_AI Z h34 b1 .int (22 : Int32) [(9 : Int32), (13 : Int32), (28 : Int32), (31 : Int32), (32 : Int32), (126 : Int32), (132 : Int32), (133 : Int32), (160 : Int32), (5760 : Int32), (6158 : Int32), (8192 : Int32), (8197 : Int32), (8202 : Int32), (8203 : Int32), (8232 : Int32), (8233 : Int32), (0 : Int32), (0 : Int32), (0 : Int32), (0 : Int32), (0 : Int32)] := F34
  have N34 := Fr.snoc X34 N32 g_b1
  have KK34 : Keep h0 h34 [] := KK32.wr W34 (Or.inr sz_b1)
  have ZZ34 : n0 ≤ h34.size := Nat.le_trans ZZ32 (Keep.of_wr W34).1
  refine own_go (T' := T34) (f' := (mkF m 111 #[.val (.int xa), .val (.int xb), .val (.int xc), .unset, .unset, .unset, .unset] [(.ref b1)])) ?_ (st34)
  refine own_go (T' := T34) (f' := (mkF m 112 #[.val (.int xa), .val (.int xb), .val (.int xc), .unset, .unset, .unset, .unset] [(.ref b1), (.ref b1)])) ?_ (fun _ k => XS.dup X34.here hx rfl (hb hby at_111) rfl rfl k)
  refine own_go (T' := T34) (f' := (mkF m 114 #[.val (.int xa), .val (.int xb), .val (.int xc), .unset, .unset, .unset, .unset] [(.int (17 : Int32)), (.ref b1), (.ref b1)])) ?_ (fun _ k => XS.bipush X34.here hx rfl (hb hby at_112) k)
  refine own_go (T' := T34) (f' := (mkF m 117 #[.val (.int xa), .val (.int xb), .val (.int xc), .unset, .unset, .unset, .unset] [(.int (8239 : Int32)), (.int (17 : Int32)), (.ref b1), (.ref b1)])) ?_ (fun _ k => XS.sipush X34.here hx rfl (hb hby at_114) k)
  obtain ⟨T36, h36, X36, e36, W36, F36, st36⟩ := own_stI X34 hx hZ e34 Fw34 (j := (17 : Int32)) ⟨by decide, by decide⟩ (g := (mkF m 117 #[.val (.int xa), .val (.int xb), .val (.int xc), .unset, .unset, .unset, .unset] [(.int (8239 : Int32)), (.int (17 : Int32)), (.ref b1), (.ref b1)])) rfl rfl (hb hby at_117)
  have Fw36 : own_AI Z h36 b1 .int (22 : Int32) [(9 : Int32), (13 : Int32), (28 : Int32), (31 : Int32), (32 : Int32), (126 : Int32), (132 : Int32), (133 : Int32), (160 : Int32), (5760 : Int32), (6158 : Int32), (8192 : Int32), (8197 : Int32), (8202 : Int32), (8203 : Int32), (8232 : Int32), (8233 : Int32), (8239 : Int32), (0 : Int32), (0 : Int32), (0 : Int32), (0 : Int32)] := F36
  have N36 := Fr.snoc X36 N34 g_b1
  have KK36 : Keep h0 h36 [] := KK34.wr W36 (Or.inr sz_b1)
  have ZZ36 : n0 ≤ h36.size := Nat.le_trans ZZ34 (Keep.of_wr W36).1
  refine own_go (T' := T36) (f' := (mkF m 118 #[.val (.int xa), .val (.int xb), .val (.int xc), .unset, .unset, .unset, .unset] [(.ref b1)])) ?_ (st36)
  refine own_go (T' := T36) (f' := (mkF m 119 #[.val (.int xa), .val (.int xb), .val (.int xc), .unset, .unset, .unset, .unset] [(.ref b1), (.ref b1)])) ?_ (fun _ k => XS.dup X36.here hx rfl (hb hby at_118) rfl rfl k)
  refine own_go (T' := T36) (f' := (mkF m 121 #[.val (.int xa), .val (.int xb), .val (.int xc), .unset, .unset, .unset, .unset] [(.int (18 : Int32)), (.ref b1), (.ref b1)])) ?_ (fun _ k => XS.bipush X36.here hx rfl (hb hby at_119) k)
  refine own_go (T' := T36) (f' := (mkF m 124 #[.val (.int xa), .val (.int xb), .val (.int xc), .unset, .unset, .unset, .unset] [(.int (8287 : Int32)), (.int (18 : Int32)), (.ref b1), (.ref b1)])) ?_ (fun _ k => XS.sipush X36.here hx rfl (hb hby at_121) k)
  obtain ⟨T38, h38, X38, e38, W38, F38, st38⟩ := own_stI X36 hx hZ e36 Fw36 (j := (18 : Int32)) ⟨by decide, by decide⟩ (g := (mkF m 124 #[.val (.int xa), .val (.int xb), .val (.int xc), .unset, .unset, .unset, .unset] [(.int (8287 : Int32)), (.int (18 : Int32)), (.ref b1), (.ref b1)])) rfl rfl (hb hby at_124)
  have Fw38 : own_AI Z h38 b1 .int (22 : Int32) [(9 : Int32), (13 : Int32), (28 : Int32), (31 : Int32), (32 : Int32), (126 : Int32), (132 : Int32), (133 : Int32), (160 : Int32), (5760 : Int32), (6158 : Int32), (8192 : Int32), (8197 : Int32), (8202 : Int32), (8203 : Int32), (8232 : Int32), (8233 : Int32), (8239 : Int32), (8287 : Int32), (0 : Int32), (0 : Int32), (0 : Int32)] := F38
  have N38 := Fr.snoc X38 N36 g_b1
  have KK38 : Keep h0 h38 [] := KK36.wr W38 (Or.inr sz_b1)
  have ZZ38 : n0 ≤ h38.size := Nat.le_trans ZZ36 (Keep.of_wr W38).1
  refine own_go (T' := T38) (f' := (mkF m 125 #[.val (.int xa), .val (.int xb), .val (.int xc), .unset, .unset, .unset, .unset] [(.ref b1)])) ?_ (st38)
  refine own_go (T' := T38) (f' := (mkF m 126 #[.val (.int xa), .val (.int xb), .val (.int xc), .unset, .unset, .unset, .unset] [(.ref b1), (.ref b1)])) ?_ (fun _ k => XS.dup X38.here hx rfl (hb hby at_125) rfl rfl k)
  refine own_go (T' := T38) (f' := (mkF m 128 #[.val (.int xa), .val (.int xb), .val (.int xc), .unset, .unset, .unset, .unset] [(.int (19 : Int32)), (.ref b1), (.ref b1)])) ?_ (fun _ k => XS.bipush X38.here hx rfl (hb hby at_126) k)
  refine own_go (T' := T38) (f' := (mkF m 131 #[.val (.int xa), .val (.int xb), .val (.int xc), .unset, .unset, .unset, .unset] [(.int (12288 : Int32)), (.int (19 : Int32)), (.ref b1), (.ref b1)])) ?_ (fun _ k => XS.sipush X38.here hx rfl (hb hby at_128) k)
  obtain ⟨T40, h40, X40, e40, W40, F40, st40⟩ := own_stI X38 hx hZ e38 Fw38 (j := (19 : Int32)) ⟨by decide, by decide⟩ (g := (mkF m 131 #[.val (.int xa), .val (.int xb), .val (.int xc), .unset, .unset, .unset, .unset] [(.int (12288 : Int32)), (.int (19 : Int32)), (.ref b1), (.ref b1)])) rfl rfl (hb hby at_131)
  have Fw40 : own_AI Z h40 b1 .int (22 : Int32) [(9 : Int32), (13 : Int32), (28 : Int32), (31 : Int32), (32 : Int32), (126 : Int32), (132 : Int32), (133 : Int32), (160 : Int32), (5760 : Int32), (6158 : Int32), (8192 : Int32), (8197 : Int32), (8202 : Int32), (8203 : Int32), (8232 : Int32), (8233 : Int32), (8239 : Int32), (8287 : Int32), (12288 : Int32), (0 : Int32), (0 : Int32)] := F40
  have N40 := Fr.snoc X40 N38 g_b1
  have KK40 : Keep h0 h40 [] := KK38.wr W40 (Or.inr sz_b1)
  have ZZ40 : n0 ≤ h40.size := Nat.le_trans ZZ38 (Keep.of_wr W40).1
  refine own_go (T' := T40) (f' := (mkF m 132 #[.val (.int xa), .val (.int xb), .val (.int xc), .unset, .unset, .unset, .unset] [(.ref b1)])) ?_ (st40)
  refine own_go (T' := T40) (f' := (mkF m 133 #[.val (.int xa), .val (.int xb), .val (.int xc), .unset, .unset, .unset, .unset] [(.ref b1), (.ref b1)])) ?_ (fun _ k => XS.dup X40.here hx rfl (hb hby at_132) rfl rfl k)
  refine own_go (T' := T40) (f' := (mkF m 135 #[.val (.int xa), .val (.int xb), .val (.int xc), .unset, .unset, .unset, .unset] [(.int (20 : Int32)), (.ref b1), (.ref b1)])) ?_ (fun _ k => XS.bipush X40.here hx rfl (hb hby at_133) k)
  refine own_go (T' := T40) (f' := (mkF m 137 #[.val (.int xa), .val (.int xb), .val (.int xc), .unset, .unset, .unset, .unset] [(.int (65279 : Int32)), (.int (20 : Int32)), (.ref b1), (.ref b1)])) ?_ (X40.ldcInt hx hown (mvT hZ (hw _ (List.mem_of_getElem? (i := 1) rfl))) (g := (mkF m 135 #[.val (.int xa), .val (.int xb), .val (.int xc), .unset, .unset, .unset, .unset] [(.int (20 : Int32)), (.ref b1), (.ref b1)])) rfl (hb hby at_135))
  obtain ⟨T42, h42, X42, e42, W42, F42, st42⟩ := own_stI X40 hx hZ e40 Fw40 (j := (20 : Int32)) ⟨by decide, by decide⟩ (g := (mkF m 137 #[.val (.int xa), .val (.int xb), .val (.int xc), .unset, .unset, .unset, .unset] [(.int (65279 : Int32)), (.int (20 : Int32)), (.ref b1), (.ref b1)])) rfl rfl (hb hby at_137)
  have Fw42 : own_AI Z h42 b1 .int (22 : Int32) [(9 : Int32), (13 : Int32), (28 : Int32), (31 : Int32), (32 : Int32), (126 : Int32), (132 : Int32), (133 : Int32), (160 : Int32), (5760 : Int32), (6158 : Int32), (8192 : Int32), (8197 : Int32), (8202 : Int32), (8203 : Int32), (8232 : Int32), (8233 : Int32), (8239 : Int32), (8287 : Int32), (12288 : Int32), (65279 : Int32), (0 : Int32)] := F42
  have N42 := Fr.snoc X42 N40 g_b1
  have KK42 : Keep h0 h42 [] := KK40.wr W42 (Or.inr sz_b1)
  have ZZ42 : n0 ≤ h42.size := Nat.le_trans ZZ40 (Keep.of_wr W42).1
  refine own_go (T' := T42) (f' := (mkF m 138 #[.val (.int xa), .val (.int xb), .val (.int xc), .unset, .unset, .unset, .unset] [(.ref b1)])) ?_ (st42)
  refine own_go (T' := T42) (f' := (mkF m 139 #[.val (.int xa), .val (.int xb), .val (.int xc), .unset, .unset, .unset, .unset] [(.ref b1), (.ref b1)])) ?_ (fun _ k => XS.dup X42.here hx rfl (hb hby at_138) rfl rfl k)
  refine own_go (T' := T42) (f' := (mkF m 141 #[.val (.int xa), .val (.int xb), .val (.int xc), .unset, .unset, .unset, .unset] [(.int (21 : Int32)), (.ref b1), (.ref b1)])) ?_ (fun _ k => XS.bipush X42.here hx rfl (hb hby at_139) k)
  refine own_go (T' := T42) (f' := (mkF m 142 #[.val (.int xa), .val (.int xb), .val (.int xc), .unset, .unset, .unset, .unset] [(.int (0 : Int32)), (.int (21 : Int32)), (.ref b1), (.ref b1)])) ?_ (fun _ k => XS.iconst X42.here hx rfl (hb hby at_141) k)
  obtain ⟨T44, h44, X44, e44, W44, F44, st44⟩ := own_stI X42 hx hZ e42 Fw42 (j := (21 : Int32)) ⟨by decide, by decide⟩ (g := (mkF m 142 #[.val (.int xa), .val (.int xb), .val (.int xc), .unset, .unset, .unset, .unset] [(.int (0 : Int32)), (.int (21 : Int32)), (.ref b1), (.ref b1)])) rfl rfl (hb hby at_142)
  have Fw44 : own_AI Z h44 b1 .int (22 : Int32) [(9 : Int32), (13 : Int32), (28 : Int32), (31 : Int32), (32 : Int32), (126 : Int32), (132 : Int32), (133 : Int32), (160 : Int32), (5760 : Int32), (6158 : Int32), (8192 : Int32), (8197 : Int32), (8202 : Int32), (8203 : Int32), (8232 : Int32), (8233 : Int32), (8239 : Int32), (8287 : Int32), (12288 : Int32), (65279 : Int32), (0 : Int32)] := F44
  have N44 := Fr.snoc X44 N42 g_b1
  have KK44 : Keep h0 h44 [] := KK42.wr W44 (Or.inr sz_b1)
  have ZZ44 : n0 ≤ h44.size := Nat.le_trans ZZ42 (Keep.of_wr W44).1
  refine own_go (T' := T44) (f' := (mkF m 143 #[.val (.int xa), .val (.int xb), .val (.int xc), .unset, .unset, .unset, .unset] [(.ref b1)])) ?_ (st44)
  refine own_go (T' := T44) (f' := (mkF m 144 #[.val (.int xa), .val (.int xb), .val (.int xc), .val (.ref b1), .unset, .unset, .unset] [])) ?_ (fun _ k => XS.astoreN X44.here hx rfl (hb hby at_143) rfl rfl (l' := #[.val (.int xa), .val (.int xb), .val (.int xc), .val (.ref b1), .unset, .unset, .unset]) rfl k)
  refine own_go (T' := T44) (f' := (mkF m 145 #[.val (.int xa), .val (.int xb), .val (.int xc), .val (.ref b1), .unset, .unset, .unset] [(.ref b1)])) ?_ (fun _ k => XS.aloadN X44.here hx rfl (hb hby at_144) rfl rfl k)
  refine own_go (T' := T44) (f' := (mkF m 146 #[.val (.int xa), .val (.int xb), .val (.int xc), .val (.ref b1), .unset, .unset, .unset] [(.int xb), (.ref b1)])) ?_ (fun _ k => XS.iloadN X44.here hx rfl (hb hby at_145) rfl  k)
  refine own_go (T' := T44) (f' := (mkF m 148 #[.val (.int xa), .val (.int xb), .val (.int xc), .val (.ref b1), .unset, .unset, .unset] [(.int (2147483647 : Int32)), (.int xb), (.ref b1)])) ?_ (X44.ldcInt hx hown (mvT hZ (hw _ (List.mem_of_getElem? (i := 2) rfl))) (g := (mkF m 146 #[.val (.int xa), .val (.int xb), .val (.int xc), .val (.ref b1), .unset, .unset, .unset] [(.int xb), (.ref b1)])) rfl (hb hby at_146))
  refine own_go (T' := T44) (f' := (mkF m 149 #[.val (.int xa), .val (.int xb), .val (.int xc), .val (.ref b1), .unset, .unset, .unset] [(.int (xb &&& (2147483647 : Int32))), (.ref b1)])) ?_ (fun _ k => XS.iand X44.here hx rfl (hb hby at_148) rfl k)
  refine own_go (T' := T44) (f' := (mkF m 150 #[.val (.int xa), .val (.int xb), .val (.int xc), .val (.ref b1), .unset, .unset, .unset] [(.ref b1), (.int (xb &&& (2147483647 : Int32))), (.ref b1)])) ?_ (fun _ k => XS.aloadN X44.here hx rfl (hb hby at_149) rfl rfl k)
  refine own_go (T' := T44) (f' := (mkF m 151 #[.val (.int xa), .val (.int xb), .val (.int xc), .val (.ref b1), .unset, .unset, .unset] [(.int (22 : Int32)), (.int (xb &&& (2147483647 : Int32))), (.ref b1)])) ?_ (own_len X44 hx hZ e44 Fw44 (g := (mkF m 150 #[.val (.int xa), .val (.int xb), .val (.int xc), .val (.ref b1), .unset, .unset, .unset] [(.ref b1), (.int (xb &&& (2147483647 : Int32))), (.ref b1)])) rfl rfl (hb hby at_150))
  refine own_go (T' := T44) (f' := (mkF m 152 #[.val (.int xa), .val (.int xb), .val (.int xc), .val (.ref b1), .unset, .unset, .unset] [(.int (own_irem (xb &&& (2147483647 : Int32)) (22 : Int32))), (.ref b1)])) ?_ (fun _ k => XS.irem X44.here hx rfl (hb hby at_151) rfl (by decide) k)
  refine own_go (T' := T44) (f' := (mkF m 153 #[.val (.int xa), .val (.int xb), .val (.int xc), .val (.ref b1), .unset, .unset, .unset] [(.int ([(9 : Int32), (13 : Int32), (28 : Int32), (31 : Int32), (32 : Int32), (126 : Int32), (132 : Int32), (133 : Int32), (160 : Int32), (5760 : Int32), (6158 : Int32), (8192 : Int32), (8197 : Int32), (8202 : Int32), (8203 : Int32), (8232 : Int32), (8233 : Int32), (8239 : Int32), (8287 : Int32), (12288 : Int32), (65279 : Int32), (0 : Int32)].getD ((own_irem (xb &&& (2147483647 : Int32)) (22 : Int32))).toNatClampNeg 0))])) ?_ (own_ldI X44 hx hZ e44 Fw44 (j := (own_irem (xb &&& (2147483647 : Int32)) (22 : Int32))) (own_idx xb) (g := (mkF m 152 #[.val (.int xa), .val (.int xb), .val (.int xc), .val (.ref b1), .unset, .unset, .unset] [(.int (own_irem (xb &&& (2147483647 : Int32)) (22 : Int32))), (.ref b1)])) rfl rfl (hb hby at_152))
  refine own_go (T' := T44) (f' := (mkF m 154 #[.val (.int xa), .val (.int xb), .val (.int xc), .val (.ref b1), .unset, .unset, .unset] [(.int xc), (.int ([(9 : Int32), (13 : Int32), (28 : Int32), (31 : Int32), (32 : Int32), (126 : Int32), (132 : Int32), (133 : Int32), (160 : Int32), (5760 : Int32), (6158 : Int32), (8192 : Int32), (8197 : Int32), (8202 : Int32), (8203 : Int32), (8232 : Int32), (8233 : Int32), (8239 : Int32), (8287 : Int32), (12288 : Int32), (65279 : Int32), (0 : Int32)].getD ((own_irem (xb &&& (2147483647 : Int32)) (22 : Int32))).toNatClampNeg 0))])) ?_ (fun _ k => XS.iloadN X44.here hx rfl (hb hby at_153) rfl  k)
  refine own_go (T' := T44) (f' := (mkF m 156 #[.val (.int xa), .val (.int xb), .val (.int xc), .val (.ref b1), .unset, .unset, .unset] [(.int (2147483647 : Int32)), (.int xc), (.int ([(9 : Int32), (13 : Int32), (28 : Int32), (31 : Int32), (32 : Int32), (126 : Int32), (132 : Int32), (133 : Int32), (160 : Int32), (5760 : Int32), (6158 : Int32), (8192 : Int32), (8197 : Int32), (8202 : Int32), (8203 : Int32), (8232 : Int32), (8233 : Int32), (8239 : Int32), (8287 : Int32), (12288 : Int32), (65279 : Int32), (0 : Int32)].getD ((own_irem (xb &&& (2147483647 : Int32)) (22 : Int32))).toNatClampNeg 0))])) ?_ (X44.ldcInt hx hown (mvT hZ (hw _ (List.mem_of_getElem? (i := 2) rfl))) (g := (mkF m 154 #[.val (.int xa), .val (.int xb), .val (.int xc), .val (.ref b1), .unset, .unset, .unset] [(.int xc), (.int ([(9 : Int32), (13 : Int32), (28 : Int32), (31 : Int32), (32 : Int32), (126 : Int32), (132 : Int32), (133 : Int32), (160 : Int32), (5760 : Int32), (6158 : Int32), (8192 : Int32), (8197 : Int32), (8202 : Int32), (8203 : Int32), (8232 : Int32), (8233 : Int32), (8239 : Int32), (8287 : Int32), (12288 : Int32), (65279 : Int32), (0 : Int32)].getD ((own_irem (xb &&& (2147483647 : Int32)) (22 : Int32))).toNatClampNeg 0))])) rfl (hb hby at_154))
  refine own_go (T' := T44) (f' := (mkF m 157 #[.val (.int xa), .val (.int xb), .val (.int xc), .val (.ref b1), .unset, .unset, .unset] [(.int (xc &&& (2147483647 : Int32))), (.int ([(9 : Int32), (13 : Int32), (28 : Int32), (31 : Int32), (32 : Int32), (126 : Int32), (132 : Int32), (133 : Int32), (160 : Int32), (5760 : Int32), (6158 : Int32), (8192 : Int32), (8197 : Int32), (8202 : Int32), (8203 : Int32), (8232 : Int32), (8233 : Int32), (8239 : Int32), (8287 : Int32), (12288 : Int32), (65279 : Int32), (0 : Int32)].getD ((own_irem (xb &&& (2147483647 : Int32)) (22 : Int32))).toNatClampNeg 0))])) ?_ (fun _ k => XS.iand X44.here hx rfl (hb hby at_156) rfl k)
  refine own_go (T' := T44) (f' := (mkF m 158 #[.val (.int xa), .val (.int xb), .val (.int xc), .val (.ref b1), .unset, .unset, .unset] [(.int (5 : Int32)), (.int (xc &&& (2147483647 : Int32))), (.int ([(9 : Int32), (13 : Int32), (28 : Int32), (31 : Int32), (32 : Int32), (126 : Int32), (132 : Int32), (133 : Int32), (160 : Int32), (5760 : Int32), (6158 : Int32), (8192 : Int32), (8197 : Int32), (8202 : Int32), (8203 : Int32), (8232 : Int32), (8233 : Int32), (8239 : Int32), (8287 : Int32), (12288 : Int32), (65279 : Int32), (0 : Int32)].getD ((own_irem (xb &&& (2147483647 : Int32)) (22 : Int32))).toNatClampNeg 0))])) ?_ (fun _ k => XS.iconst X44.here hx rfl (hb hby at_157) k)
  refine own_go (T' := T44) (f' := (mkF m 159 #[.val (.int xa), .val (.int xb), .val (.int xc), .val (.ref b1), .unset, .unset, .unset] [(.int (own_irem (xc &&& (2147483647 : Int32)) (5 : Int32))), (.int ([(9 : Int32), (13 : Int32), (28 : Int32), (31 : Int32), (32 : Int32), (126 : Int32), (132 : Int32), (133 : Int32), (160 : Int32), (5760 : Int32), (6158 : Int32), (8192 : Int32), (8197 : Int32), (8202 : Int32), (8203 : Int32), (8232 : Int32), (8233 : Int32), (8239 : Int32), (8287 : Int32), (12288 : Int32), (65279 : Int32), (0 : Int32)].getD ((own_irem (xb &&& (2147483647 : Int32)) (22 : Int32))).toNatClampNeg 0))])) ?_ (fun _ k => XS.irem X44.here hx rfl (hb hby at_158) rfl (by decide) k)
  refine own_go (T' := T44) (f' := (mkF m 160 #[.val (.int xa), .val (.int xb), .val (.int xc), .val (.ref b1), .unset, .unset, .unset] [(.int (([(9 : Int32), (13 : Int32), (28 : Int32), (31 : Int32), (32 : Int32), (126 : Int32), (132 : Int32), (133 : Int32), (160 : Int32), (5760 : Int32), (6158 : Int32), (8192 : Int32), (8197 : Int32), (8202 : Int32), (8203 : Int32), (8232 : Int32), (8233 : Int32), (8239 : Int32), (8287 : Int32), (12288 : Int32), (65279 : Int32), (0 : Int32)].getD ((own_irem (xb &&& (2147483647 : Int32)) (22 : Int32))).toNatClampNeg 0) + (own_irem (xc &&& (2147483647 : Int32)) (5 : Int32))))])) ?_ (fun _ k => XS.iadd X44.here hx rfl (hb hby at_159) rfl k)
  refine own_go (T' := T44) (f' := (mkF m 161 #[.val (.int xa), .val (.int xb), .val (.int xc), .val (.ref b1), .unset, .unset, .unset] [(.int (2 : Int32)), (.int (([(9 : Int32), (13 : Int32), (28 : Int32), (31 : Int32), (32 : Int32), (126 : Int32), (132 : Int32), (133 : Int32), (160 : Int32), (5760 : Int32), (6158 : Int32), (8192 : Int32), (8197 : Int32), (8202 : Int32), (8203 : Int32), (8232 : Int32), (8233 : Int32), (8239 : Int32), (8287 : Int32), (12288 : Int32), (65279 : Int32), (0 : Int32)].getD ((own_irem (xb &&& (2147483647 : Int32)) (22 : Int32))).toNatClampNeg 0) + (own_irem (xc &&& (2147483647 : Int32)) (5 : Int32))))])) ?_ (fun _ k => XS.iconst X44.here hx rfl (hb hby at_160) k)
  refine own_go (T' := T44) (f' := (mkF m 162 #[.val (.int xa), .val (.int xb), .val (.int xc), .val (.ref b1), .unset, .unset, .unset] [(.int ((([(9 : Int32), (13 : Int32), (28 : Int32), (31 : Int32), (32 : Int32), (126 : Int32), (132 : Int32), (133 : Int32), (160 : Int32), (5760 : Int32), (6158 : Int32), (8192 : Int32), (8197 : Int32), (8202 : Int32), (8203 : Int32), (8232 : Int32), (8233 : Int32), (8239 : Int32), (8287 : Int32), (12288 : Int32), (65279 : Int32), (0 : Int32)].getD ((own_irem (xb &&& (2147483647 : Int32)) (22 : Int32))).toNatClampNeg 0) + (own_irem (xc &&& (2147483647 : Int32)) (5 : Int32))) - (2 : Int32)))])) ?_ (fun _ k => XS.isub X44.here hx rfl (hb hby at_161) rfl k)
  refine own_go (T' := T44) (f' := (mkF m 164 #[.val (.int xa), .val (.int xb), .val (.int xc), .val (.ref b1), .val (.int (own_v0_162 xb xc)), .unset, .unset] [])) ?_ (fun _ k => XS.istore X44.here hx rfl (hb hby at_162) rfl (l' := #[.val (.int xa), .val (.int xb), .val (.int xc), .val (.ref b1), .val (.int (own_v0_162 xb xc)), .unset, .unset]) rfl k)
  refine own_go (T' := T44) (f' := (mkF m 165 #[.val (.int xa), .val (.int xb), .val (.int xc), .val (.ref b1), .val (.int (own_v0_162 xb xc)), .unset, .unset] [(.int xa)])) ?_ (fun _ k => XS.iloadN X44.here hx rfl (hb hby at_164) rfl  k)
  obtain ⟨_, _, ⟨T46, L46, k46, n46⟩, -, X46, ⟨Lc46, hQ46, l46, y46, z46⟩, st46⟩ := Jvm.LawKit.callS X44 hx (y := (⟨"com/example/monitorgen/monitorgen/property/Alphabet", "isWhitespace", "(I)Z"⟩ : MethodName)) hown (mvT hZ (hw _ (List.mem_of_getElem? (i := 3) rfl))) (mvT hZ (hw _ (List.mem_of_getElem? (i := 4) rfl))) (mvT hZ (hw _ (List.mem_of_getElem? (i := 5) rfl))) (mvT hZ (hw _ (List.mem_of_getElem? (i := 6) rfl))) (by decide) (backOf (W := 0) (own_rm1 l Z a0 hw [] xa h44 n0 ZZ44) hZ (hw _ (List.mem_of_getElem? (i := 6) rfl)) (hw _ (List.mem_of_getElem? (i := 5) rfl)) (by decide) (by decide)) (g := (mkF m 165 #[.val (.int xa), .val (.int xb), .val (.int xc), .val (.ref b1), .val (.int (own_v0_162 xb xc)), .unset, .unset] [(.int xa)])) rfl (by rw [hml]; rfl) (argsL := [(.int xa)]) (rest := []) (lenOf own_pd0 rfl) rfl (by show 2 * 0 + _ ≤ _; exact Nat.le_of_eq rfl) (hb hby at_165) (fun _ _ => ⟨rfl, e44, (by decide : 1 + 0 ≤ _), (by decide : 22 + 0 ≤ _)⟩)
  dsimp only [Pt.U, Pt.locs, Pt.cells, Pt.slots] at X46 l46 y46 z46 st46 hQ46
  subst y46 z46
  obtain ⟨rfl, N46q, e46⟩ := hQ46
  have N46 : Fr n0 L46 := l46 ▸ Fr.app N44 N46q
  refine own_go (T' := T46) (f' := (mkF m 168 #[.val (.int xa), .val (.int xb), .val (.int xc), .val (.ref b1), .val (.int (own_v0_162 xb xc)), .unset, .unset] [(.int (own_f1 xa))])) ?_ (st46)
  refine own_go (T' := T46) (f' := (mkF m 169 #[.val (.int xa), .val (.int xb), .val (.int xc), .val (.ref b1), .val (.int (own_v0_162 xb xc)), .unset, .unset] [(.int xa), (.int (own_f1 xa))])) ?_ (fun _ k => XS.iloadN X46.here hx rfl (hb hby at_168) rfl  k)
  obtain ⟨_, _, ⟨T47, L47, k47, n47⟩, -, X47, ⟨Lc47, hQ47, l47, y47, z47⟩, st47⟩ := Jvm.LawKit.callS X46 hx (y := (⟨"com/example/monitorgen/monitorgen/property/AlphabetIsWhitespacePinLaw", "ref", "(I)Z"⟩ : MethodName)) hown (mvT hZ (hw _ (List.mem_of_getElem? (i := 7) rfl))) (mvT hZ (hw _ (List.mem_of_getElem? (i := 8) rfl))) (mvT hZ (hw _ (List.mem_of_getElem? (i := 9) rfl))) (mvT hZ (hw _ (List.mem_of_getElem? (i := 10) rfl))) (by decide) (backOf (W := 1) (own_rm2 l Z a0 hw [] xa h44 n0 ZZ44) hZ (hw _ (List.mem_of_getElem? (i := 10) rfl)) (hw _ (List.mem_of_getElem? (i := 9) rfl)) (by decide) (by decide)) (g := (mkF m 169 #[.val (.int xa), .val (.int xb), .val (.int xc), .val (.ref b1), .val (.int (own_v0_162 xb xc)), .unset, .unset] [(.int xa), (.int (own_f1 xa))])) rfl (by rw [hml]; rfl) (argsL := [(.int xa)]) (rest := [(.int (own_f1 xa))]) (lenOf own_pd0 rfl) rfl (by show 2 * 0 + _ ≤ _; exact Nat.le_of_eq rfl) (hb hby at_169) (fun _ _ => ⟨rfl, e46, (by decide : 1 + 0 ≤ _), (by decide : 22 + 0 ≤ _)⟩)
  dsimp only [Pt.U, Pt.locs, Pt.cells, Pt.slots] at X47 l47 y47 z47 st47 hQ47
  subst y47 z47
  obtain ⟨rfl, N47q, e47⟩ := hQ47
  have N47 : Fr n0 L47 := l47 ▸ Fr.app N46 N47q
  refine own_go (T' := T47) (f' := (mkF m 172 #[.val (.int xa), .val (.int xb), .val (.int xc), .val (.ref b1), .val (.int (own_v0_162 xb xc)), .unset, .unset] [(.int (own_f2 xa)), (.int (own_f1 xa))])) ?_ (st47)
  obtain ⟨_, ⟨T48, L48, rfl, X48, e48, N48⟩, mg48⟩ : own_Goes p.tables e below (fun uu => ∃ (T' : State) (L' : List Loc), uu = T'.setTop (mkF m 180 #[.val (.int xa), .val (.int xb), .val (.int xc), .val (.ref b1), .val (.int (own_v0_162 xb xc)), .unset, .unset] [(.int (own_v0_172_s0 xa))]) ∧ Stand p l e room_1 s m #[(.int xa), (.int xb), (.int xc)] below meth c T' L' 1 22 ∧ T'.heap = h44 ∧ Fr n0 L') T47 (mkF m 172 #[.val (.int xa), .val (.int xb), .val (.int xc), .val (.ref b1), .val (.int (own_v0_162 xb xc)), .unset, .unset] [(.int (own_f2 xa)), (.int (own_f1 xa))]) := by
    by_cases hc172_49 : (own_f1 xa) = (own_f2 xa)
    · refine own_go (T' := T47) (f' := (mkF m 175 #[.val (.int xa), .val (.int xb), .val (.int xc), .val (.ref b1), .val (.int (own_v0_162 xb xc)), .unset, .unset] [])) ?_ (fun _ k => XS.icmpNo X47.here hx rfl (hb hby at_172) rfl (teq hc172_49).2 k)
      refine own_go (T' := T47) (f' := (mkF m 176 #[.val (.int xa), .val (.int xb), .val (.int xc), .val (.ref b1), .val (.int (own_v0_162 xb xc)), .unset, .unset] [(.int (1 : Int32))])) ?_ (fun _ k => XS.iconst X47.here hx rfl (hb hby at_175) k)
      refine own_go (T' := T47) (f' := (mkF m 180 #[.val (.int xa), .val (.int xb), .val (.int xc), .val (.ref b1), .val (.int (own_v0_162 xb xc)), .unset, .unset] [(.int (1 : Int32))])) ?_ (fun _ k => XS.goto X47.here hx rfl (pc0 := 176) (pc' := 180) rfl (hb hby at_176) (by decide) (by decide) k)
      have em50 : (own_v0_172_s0 xa) = (1 : Int32) := (if_pos hc172_49)
      exact ⟨_, ⟨T47, _, (by rw [em50]), X47, e47, N47⟩, fun _ k => k⟩
    · refine own_go (T' := T47) (f' := (mkF m 179 #[.val (.int xa), .val (.int xb), .val (.int xc), .val (.ref b1), .val (.int (own_v0_162 xb xc)), .unset, .unset] [])) ?_ (fun _ k => XS.icmpYes X47.here hx rfl (pc0 := 172) (pc' := 179) rfl (hb hby at_172) rfl (feq hc172_49).2 (by decide) (by decide) k)
      refine own_go (T' := T47) (f' := (mkF m 180 #[.val (.int xa), .val (.int xb), .val (.int xc), .val (.ref b1), .val (.int (own_v0_162 xb xc)), .unset, .unset] [(.int (0 : Int32))])) ?_ (fun _ k => XS.iconst X47.here hx rfl (hb hby at_179) k)
      have em51 : (own_v0_172_s0 xa) = (0 : Int32) := (if_neg hc172_49)
      exact ⟨_, ⟨T47, _, (by rw [em51]), X47, e47, N47⟩, fun _ k => k⟩
  refine own_go (T' := T48) (f' := (mkF m 180 #[.val (.int xa), .val (.int xb), .val (.int xc), .val (.ref b1), .val (.int (own_v0_162 xb xc)), .unset, .unset] [(.int (own_v0_172_s0 xa))])) ?_ (mg48)
  refine own_go (T' := T48) (f' := (mkF m 182 #[.val (.int xa), .val (.int xb), .val (.int xc), .val (.ref b1), .val (.int (own_v0_162 xb xc)), .val (.int (own_v0_172_s0 xa)), .unset] [])) ?_ (fun _ k => XS.istore X48.here hx rfl (hb hby at_180) rfl (l' := #[.val (.int xa), .val (.int xb), .val (.int xc), .val (.ref b1), .val (.int (own_v0_162 xb xc)), .val (.int (own_v0_172_s0 xa)), .unset]) rfl k)
  refine own_go (T' := T48) (f' := (mkF m 184 #[.val (.int xa), .val (.int xb), .val (.int xc), .val (.ref b1), .val (.int (own_v0_162 xb xc)), .val (.int (own_v0_172_s0 xa)), .unset] [(.int (own_v0_162 xb xc))])) ?_ (fun _ k => XS.iload X48.here hx rfl (hb hby at_182) rfl  k)
  obtain ⟨_, _, ⟨T52, L52, k52, n52⟩, -, X52, ⟨Lc52, hQ52, l52, y52, z52⟩, st52⟩ := Jvm.LawKit.callS X48 hx (y := (⟨"com/example/monitorgen/monitorgen/property/Alphabet", "isWhitespace", "(I)Z"⟩ : MethodName)) hown (mvT hZ (hw _ (List.mem_of_getElem? (i := 3) rfl))) (mvT hZ (hw _ (List.mem_of_getElem? (i := 4) rfl))) (mvT hZ (hw _ (List.mem_of_getElem? (i := 5) rfl))) (mvT hZ (hw _ (List.mem_of_getElem? (i := 6) rfl))) (by decide) (backOf (W := 0) (own_rm1 l Z a0 hw [] (own_v0_162 xb xc) h44 n0 ZZ44) hZ (hw _ (List.mem_of_getElem? (i := 6) rfl)) (hw _ (List.mem_of_getElem? (i := 5) rfl)) (by decide) (by decide)) (g := (mkF m 184 #[.val (.int xa), .val (.int xb), .val (.int xc), .val (.ref b1), .val (.int (own_v0_162 xb xc)), .val (.int (own_v0_172_s0 xa)), .unset] [(.int (own_v0_162 xb xc))])) rfl (by rw [hml]; rfl) (argsL := [(.int (own_v0_162 xb xc))]) (rest := []) (lenOf own_pd0 rfl) rfl (by show 2 * 0 + _ ≤ _; exact Nat.le_of_eq rfl) (hb hby at_184) (fun _ _ => ⟨rfl, e48, (by decide : 1 + 0 ≤ _), (by decide : 22 + 0 ≤ _)⟩)
  dsimp only [Pt.U, Pt.locs, Pt.cells, Pt.slots] at X52 l52 y52 z52 st52 hQ52
  subst y52 z52
  obtain ⟨rfl, N52q, e52⟩ := hQ52
  have N52 : Fr n0 L52 := l52 ▸ Fr.app N48 N52q
  refine own_go (T' := T52) (f' := (mkF m 187 #[.val (.int xa), .val (.int xb), .val (.int xc), .val (.ref b1), .val (.int (own_v0_162 xb xc)), .val (.int (own_v0_172_s0 xa)), .unset] [(.int (own_f1 (own_v0_162 xb xc)))])) ?_ (st52)
  refine own_go (T' := T52) (f' := (mkF m 189 #[.val (.int xa), .val (.int xb), .val (.int xc), .val (.ref b1), .val (.int (own_v0_162 xb xc)), .val (.int (own_v0_172_s0 xa)), .unset] [(.int (own_v0_162 xb xc)), (.int (own_f1 (own_v0_162 xb xc)))])) ?_ (fun _ k => XS.iload X52.here hx rfl (hb hby at_187) rfl  k)
  obtain ⟨_, _, ⟨T53, L53, k53, n53⟩, -, X53, ⟨Lc53, hQ53, l53, y53, z53⟩, st53⟩ := Jvm.LawKit.callS X52 hx (y := (⟨"com/example/monitorgen/monitorgen/property/AlphabetIsWhitespacePinLaw", "ref", "(I)Z"⟩ : MethodName)) hown (mvT hZ (hw _ (List.mem_of_getElem? (i := 7) rfl))) (mvT hZ (hw _ (List.mem_of_getElem? (i := 8) rfl))) (mvT hZ (hw _ (List.mem_of_getElem? (i := 9) rfl))) (mvT hZ (hw _ (List.mem_of_getElem? (i := 10) rfl))) (by decide) (backOf (W := 1) (own_rm2 l Z a0 hw [] (own_v0_162 xb xc) h44 n0 ZZ44) hZ (hw _ (List.mem_of_getElem? (i := 10) rfl)) (hw _ (List.mem_of_getElem? (i := 9) rfl)) (by decide) (by decide)) (g := (mkF m 189 #[.val (.int xa), .val (.int xb), .val (.int xc), .val (.ref b1), .val (.int (own_v0_162 xb xc)), .val (.int (own_v0_172_s0 xa)), .unset] [(.int (own_v0_162 xb xc)), (.int (own_f1 (own_v0_162 xb xc)))])) rfl (by rw [hml]; rfl) (argsL := [(.int (own_v0_162 xb xc))]) (rest := [(.int (own_f1 (own_v0_162 xb xc)))]) (lenOf own_pd0 rfl) rfl (by show 2 * 0 + _ ≤ _; exact Nat.le_of_eq rfl) (hb hby at_189) (fun _ _ => ⟨rfl, e52, (by decide : 1 + 0 ≤ _), (by decide : 22 + 0 ≤ _)⟩)
  dsimp only [Pt.U, Pt.locs, Pt.cells, Pt.slots] at X53 l53 y53 z53 st53 hQ53
  subst y53 z53
  obtain ⟨rfl, N53q, e53⟩ := hQ53
  have N53 : Fr n0 L53 := l53 ▸ Fr.app N52 N53q
  refine own_go (T' := T53) (f' := (mkF m 192 #[.val (.int xa), .val (.int xb), .val (.int xc), .val (.ref b1), .val (.int (own_v0_162 xb xc)), .val (.int (own_v0_172_s0 xa)), .unset] [(.int (own_f2 (own_v0_162 xb xc))), (.int (own_f1 (own_v0_162 xb xc)))])) ?_ (st53)
  obtain ⟨_, ⟨T54, L54, rfl, X54, e54, N54⟩, mg54⟩ : own_Goes p.tables e below (fun uu => ∃ (T' : State) (L' : List Loc), uu = T'.setTop (mkF m 200 #[.val (.int xa), .val (.int xb), .val (.int xc), .val (.ref b1), .val (.int (own_v0_162 xb xc)), .val (.int (own_v0_172_s0 xa)), .unset] [(.int (own_v0_192_s0 xb xc))]) ∧ Stand p l e room_1 s m #[(.int xa), (.int xb), (.int xc)] below meth c T' L' 1 22 ∧ T'.heap = h44 ∧ Fr n0 L') T53 (mkF m 192 #[.val (.int xa), .val (.int xb), .val (.int xc), .val (.ref b1), .val (.int (own_v0_162 xb xc)), .val (.int (own_v0_172_s0 xa)), .unset] [(.int (own_f2 (own_v0_162 xb xc))), (.int (own_f1 (own_v0_162 xb xc)))]) := by
    by_cases hc192_55 : (own_f1 (own_v0_162 xb xc)) = (own_f2 (own_v0_162 xb xc))
    · refine own_go (T' := T53) (f' := (mkF m 195 #[.val (.int xa), .val (.int xb), .val (.int xc), .val (.ref b1), .val (.int (own_v0_162 xb xc)), .val (.int (own_v0_172_s0 xa)), .unset] [])) ?_ (fun _ k => XS.icmpNo X53.here hx rfl (hb hby at_192) rfl (teq hc192_55).2 k)
      refine own_go (T' := T53) (f' := (mkF m 196 #[.val (.int xa), .val (.int xb), .val (.int xc), .val (.ref b1), .val (.int (own_v0_162 xb xc)), .val (.int (own_v0_172_s0 xa)), .unset] [(.int (1 : Int32))])) ?_ (fun _ k => XS.iconst X53.here hx rfl (hb hby at_195) k)
      refine own_go (T' := T53) (f' := (mkF m 200 #[.val (.int xa), .val (.int xb), .val (.int xc), .val (.ref b1), .val (.int (own_v0_162 xb xc)), .val (.int (own_v0_172_s0 xa)), .unset] [(.int (1 : Int32))])) ?_ (fun _ k => XS.goto X53.here hx rfl (pc0 := 196) (pc' := 200) rfl (hb hby at_196) (by decide) (by decide) k)
      have em56 : (own_v0_192_s0 xb xc) = (1 : Int32) := (if_pos hc192_55)
      exact ⟨_, ⟨T53, _, (by rw [em56]), X53, e53, N53⟩, fun _ k => k⟩
    · refine own_go (T' := T53) (f' := (mkF m 199 #[.val (.int xa), .val (.int xb), .val (.int xc), .val (.ref b1), .val (.int (own_v0_162 xb xc)), .val (.int (own_v0_172_s0 xa)), .unset] [])) ?_ (fun _ k => XS.icmpYes X53.here hx rfl (pc0 := 192) (pc' := 199) rfl (hb hby at_192) rfl (feq hc192_55).2 (by decide) (by decide) k)
      refine own_go (T' := T53) (f' := (mkF m 200 #[.val (.int xa), .val (.int xb), .val (.int xc), .val (.ref b1), .val (.int (own_v0_162 xb xc)), .val (.int (own_v0_172_s0 xa)), .unset] [(.int (0 : Int32))])) ?_ (fun _ k => XS.iconst X53.here hx rfl (hb hby at_199) k)
      have em57 : (own_v0_192_s0 xb xc) = (0 : Int32) := (if_neg hc192_55)
      exact ⟨_, ⟨T53, _, (by rw [em57]), X53, e53, N53⟩, fun _ k => k⟩
  refine own_go (T' := T54) (f' := (mkF m 200 #[.val (.int xa), .val (.int xb), .val (.int xc), .val (.ref b1), .val (.int (own_v0_162 xb xc)), .val (.int (own_v0_172_s0 xa)), .unset] [(.int (own_v0_192_s0 xb xc))])) ?_ (mg54)
  refine own_go (T' := T54) (f' := (mkF m 202 #[.val (.int xa), .val (.int xb), .val (.int xc), .val (.ref b1), .val (.int (own_v0_162 xb xc)), .val (.int (own_v0_172_s0 xa)), .val (.int (own_v0_192_s0 xb xc))] [])) ?_ (fun _ k => XS.istore X54.here hx rfl (hb hby at_200) rfl (l' := #[.val (.int xa), .val (.int xb), .val (.int xc), .val (.ref b1), .val (.int (own_v0_162 xb xc)), .val (.int (own_v0_172_s0 xa)), .val (.int (own_v0_192_s0 xb xc))]) rfl k)
  refine own_go (T' := T54) (f' := (mkF m 204 #[.val (.int xa), .val (.int xb), .val (.int xc), .val (.ref b1), .val (.int (own_v0_162 xb xc)), .val (.int (own_v0_172_s0 xa)), .val (.int (own_v0_192_s0 xb xc))] [(.int (own_v0_172_s0 xa))])) ?_ (fun _ k => XS.iload X54.here hx rfl (hb hby at_202) rfl  k)
  obtain ⟨_, ⟨T58, L58, rfl, X58, e58, N58⟩, mg58⟩ : own_Goes p.tables e below (fun uu => ∃ (T' : State) (L' : List Loc), uu = T'.setTop (mkF m 217 #[.val (.int xa), .val (.int xb), .val (.int xc), .val (.ref b1), .val (.int (own_v0_162 xb xc)), .val (.int (own_v0_172_s0 xa)), .val (.int (own_v0_192_s0 xb xc))] [(.int (own_v0_204_s0 xa xb xc))]) ∧ Stand p l e room_1 s m #[(.int xa), (.int xb), (.int xc)] below meth c T' L' 1 22 ∧ T'.heap = h44 ∧ Fr n0 L') T54 (mkF m 204 #[.val (.int xa), .val (.int xb), .val (.int xc), .val (.ref b1), .val (.int (own_v0_162 xb xc)), .val (.int (own_v0_172_s0 xa)), .val (.int (own_v0_192_s0 xb xc))] [(.int (own_v0_172_s0 xa))]) := by
    by_cases hc204_59 : (own_v0_172_s0 xa) = (0 : Int32)
    · refine own_go (T' := T54) (f' := (mkF m 216 #[.val (.int xa), .val (.int xb), .val (.int xc), .val (.ref b1), .val (.int (own_v0_162 xb xc)), .val (.int (own_v0_172_s0 xa)), .val (.int (own_v0_192_s0 xb xc))] [])) ?_ (fun _ k => XS.ifYes X54.here hx rfl (pc0 := 204) (pc' := 216) rfl (hb hby at_204) rfl ((if0 _ _).trans (teq hc204_59).1) (by decide) (by decide) k)
      refine own_go (T' := T54) (f' := (mkF m 217 #[.val (.int xa), .val (.int xb), .val (.int xc), .val (.ref b1), .val (.int (own_v0_162 xb xc)), .val (.int (own_v0_172_s0 xa)), .val (.int (own_v0_192_s0 xb xc))] [(.int (0 : Int32))])) ?_ (fun _ k => XS.iconst X54.here hx rfl (hb hby at_216) k)
      have em60 : (own_v0_204_s0 xa xb xc) = (0 : Int32) := (if_pos hc204_59)
      exact ⟨_, ⟨T54, _, (by rw [em60]), X54, e54, N54⟩, fun _ k => k⟩
    · refine own_go (T' := T54) (f' := (mkF m 207 #[.val (.int xa), .val (.int xb), .val (.int xc), .val (.ref b1), .val (.int (own_v0_162 xb xc)), .val (.int (own_v0_172_s0 xa)), .val (.int (own_v0_192_s0 xb xc))] [])) ?_ (fun _ k => XS.ifNo X54.here hx rfl (hb hby at_204) rfl ((if0 _ _).trans (feq hc204_59).1) k)
      refine own_go (T' := T54) (f' := (mkF m 209 #[.val (.int xa), .val (.int xb), .val (.int xc), .val (.ref b1), .val (.int (own_v0_162 xb xc)), .val (.int (own_v0_172_s0 xa)), .val (.int (own_v0_192_s0 xb xc))] [(.int (own_v0_192_s0 xb xc))])) ?_ (fun _ k => XS.iload X54.here hx rfl (hb hby at_207) rfl  k)
      by_cases hc209_61 : (own_v0_192_s0 xb xc) = (0 : Int32)
      · refine own_go (T' := T54) (f' := (mkF m 216 #[.val (.int xa), .val (.int xb), .val (.int xc), .val (.ref b1), .val (.int (own_v0_162 xb xc)), .val (.int (own_v0_172_s0 xa)), .val (.int (own_v0_192_s0 xb xc))] [])) ?_ (fun _ k => XS.ifYes X54.here hx rfl (pc0 := 209) (pc' := 216) rfl (hb hby at_209) rfl ((if0 _ _).trans (teq hc209_61).1) (by decide) (by decide) k)
        refine own_go (T' := T54) (f' := (mkF m 217 #[.val (.int xa), .val (.int xb), .val (.int xc), .val (.ref b1), .val (.int (own_v0_162 xb xc)), .val (.int (own_v0_172_s0 xa)), .val (.int (own_v0_192_s0 xb xc))] [(.int (0 : Int32))])) ?_ (fun _ k => XS.iconst X54.here hx rfl (hb hby at_216) k)
        have em62 : (own_v0_204_s0 xa xb xc) = (0 : Int32) := (Eq.trans (if_neg hc204_59) (if_pos hc209_61))
        exact ⟨_, ⟨T54, _, (by rw [em62]), X54, e54, N54⟩, fun _ k => k⟩
      · refine own_go (T' := T54) (f' := (mkF m 212 #[.val (.int xa), .val (.int xb), .val (.int xc), .val (.ref b1), .val (.int (own_v0_162 xb xc)), .val (.int (own_v0_172_s0 xa)), .val (.int (own_v0_192_s0 xb xc))] [])) ?_ (fun _ k => XS.ifNo X54.here hx rfl (hb hby at_209) rfl ((if0 _ _).trans (feq hc209_61).1) k)
        refine own_go (T' := T54) (f' := (mkF m 213 #[.val (.int xa), .val (.int xb), .val (.int xc), .val (.ref b1), .val (.int (own_v0_162 xb xc)), .val (.int (own_v0_172_s0 xa)), .val (.int (own_v0_192_s0 xb xc))] [(.int (1 : Int32))])) ?_ (fun _ k => XS.iconst X54.here hx rfl (hb hby at_212) k)
        refine own_go (T' := T54) (f' := (mkF m 217 #[.val (.int xa), .val (.int xb), .val (.int xc), .val (.ref b1), .val (.int (own_v0_162 xb xc)), .val (.int (own_v0_172_s0 xa)), .val (.int (own_v0_192_s0 xb xc))] [(.int (1 : Int32))])) ?_ (fun _ k => XS.goto X54.here hx rfl (pc0 := 213) (pc' := 217) rfl (hb hby at_213) (by decide) (by decide) k)
        have em63 : (own_v0_204_s0 xa xb xc) = (1 : Int32) := (Eq.trans (if_neg hc204_59) (if_neg hc209_61))
        exact ⟨_, ⟨T54, _, (by rw [em63]), X54, e54, N54⟩, fun _ k => k⟩
  refine own_go (T' := T58) (f' := (mkF m 217 #[.val (.int xa), .val (.int xb), .val (.int xc), .val (.ref b1), .val (.int (own_v0_162 xb xc)), .val (.int (own_v0_172_s0 xa)), .val (.int (own_v0_192_s0 xb xc))] [(.int (own_v0_204_s0 xa xb xc))])) ?_ (mg58)
  obtain ⟨fs64, hr64, hrun64, hended64, hW64, hsame64⟩ := X58.leave (v := some (.int (own_v0_204_s0 xa xb xc))) (fun h => by rw [Bd.returns] at h; cases h)
  refine ⟨_, ⟨_, hrun64, hended64, _, _, rfl, ?_, ⟨_, rfl⟩, hW64, hsame64.mono (by decide) (by decide)⟩, fun _ k => (own_retZ X58 hx Bd.returns (own_b0_204_s0 xa xb xc) (hb hby at_217) hr64).trans k⟩
  show own_Q0 Z xa xb xc h0 n0 _ T58.heap _
  rw [e58]
  exact ⟨rfl, N58⟩
theorem own_same (xa : Int32) : own_f1 xa = own_f2 xa := by
  by_cases h : xa = (9 : Int32) ∨ xa = (10 : Int32) ∨ xa = (11 : Int32) ∨ xa = (12 : Int32) ∨ xa = (13 : Int32) ∨ xa = (32 : Int32) ∨ xa = (133 : Int32) ∨ xa = (160 : Int32) ∨ xa = (5760 : Int32) ∨ xa = (8232 : Int32) ∨ xa = (8233 : Int32) ∨ xa = (8239 : Int32) ∨ xa = (8287 : Int32) ∨ xa = (12288 : Int32)
  · rcases h with rfl | rfl | rfl | rfl | rfl | rfl | rfl | rfl | rfl | rfl | rfl | rfl | rfl | rfl <;> decide
  · simp only [not_or] at h
    obtain ⟨q9, q10, q11, q12, q13, q32, q133, q160, q5760, q8232, q8233, q8239, q8287, q12288⟩ := h
    have e1 : own_v1_16_s0 xa = (if xa < (8192 : Int32) then (0 : Int32) else (if (8202 : Int32) < xa then (0 : Int32) else (1 : Int32))) := by
      unfold own_v1_16_s0
      rw [if_neg (by simp only [not_or]; exact ⟨q9, q10, q11, q12, q13, q32, q133, q160, q5760, q8232, q8233, q8239, q8287, q12288⟩)]
    have e2 : own_v2_33_s0 xa = 0 := by
      unfold own_v2_33_s0
      rw [if_neg q32, if_neg q133, if_neg q160, if_neg q5760, if_neg q8232, if_neg q8233, if_neg q8239, if_neg q8287, if_neg q12288]
    unfold own_f1 own_f2
    rw [e1, e2]
    have r9 : ¬ xa.toInt = 9 := fun z => q9 (own_eq32.mpr z)
    have r10 : ¬ xa.toInt = 10 := fun z => q10 (own_eq32.mpr z)
    have r11 : ¬ xa.toInt = 11 := fun z => q11 (own_eq32.mpr z)
    have r12 : ¬ xa.toInt = 12 := fun z => q12 (own_eq32.mpr z)
    have r13 : ¬ xa.toInt = 13 := fun z => q13 (own_eq32.mpr z)
    have r32 : ¬ xa.toInt = 32 := fun z => q32 (own_eq32.mpr z)
    have r133 : ¬ xa.toInt = 133 := fun z => q133 (own_eq32.mpr z)
    simp only [own_lt32, show (9 : Int32).toInt = 9 from rfl, show (13 : Int32).toInt = 13 from rfl, show (32 : Int32).toInt = 32 from rfl, show (133 : Int32).toInt = 133 from rfl, show (8192 : Int32).toInt = 8192 from rfl, show (8202 : Int32).toInt = 8202 from rfl]
    repeat' split
    all_goals first | rfl | (exfalso; omega)
theorem own_plain (xa xb xc : Int32) : (own_f0 xa xb xc) = 1 := by
  have a1 : own_v0_172_s0 xa = 1 := if_pos (own_same xa)
  have a2 : own_v0_192_s0 xb xc = 1 := if_pos (own_same _)
  unfold own_f0 own_v0_204_s0
  rw [a1, a2]; decide

set_option maxRecDepth 65536 in
set_option maxHeartbeats 40000000 in
theorem comes_1 {Post : Tables → Env → Array Value → State → Outcome → State → Prop} (hpost : ∀ tb e args s v u, (limb_1_1.after args s (.returned v) u = true ∧ limb_1_2.after args s (.returned v) u = true ∧ True) → FrameEnd s (.returned v) u (Jvm.fieldLocs frame_1_writes args s ++ Jvm.arrayLocs frame_1_arrays args s ++ Jvm.staticLocs frame_1_statics s) 16 128 → Post tb e args s (.returned v) u) :
    ArmFor flags0 classFile x code maxLocals ret World_1 tables_1 room_1 Calls_1 rest_1 Pre_1 Post := by
  intro l hfl _ _ p e ha hc hk s m args below hf hA hF happ hP
  obtain ⟨hcalls, hrest, hpre⟩ := hP
  obtain ⟨-, -, -, hnamed, -, -, -, hat⟩ := (Spec.applies_iff hf).mp happ
  obtain ⟨hg, hn⟩ := and_e (Cond.before_iff.mp (show (Jvm.Cond.and given_1 narrow_1).before args s = true from hpre))
  obtain ⟨gg1, gg2⟩ := and_e hg
  obtain ⟨gg3, gg4⟩ := and_e gg2
  obtain ⟨gg5, gg6⟩ := and_e gg4
  obtain ⟨w0, w1, w2, rfl⟩ : ∃ w0 w1 w2 : Value, args = #[w0, w1, w2] := by
    have hs : args.size = 3 := by simpa [Cond.value, given_1] using gg1
    obtain ⟨L⟩ := args
    match L, hs with
    | [w0, w1, w2], _ => exact ⟨w0, w1, w2, rfl⟩
  have hw := fun d (hd : d ∈ tables_1) => atoms_spec (ws := Jvm.Cond.code x code maxLocals ret :: tables_1) hat d (List.mem_cons_of_mem _ hd)
  have hfit : Fit s := fun {y c} hc i hi => by
    obtain ⟨ha, rfl⟩ := Array.getElem?_eq_some_iff.mp hc
    have q := List.all_eq_true.mp ((Array.all_eq_true_iff_forall_mem.mp hF) _ (Array.getElem_mem ha)) i (List.mem_range.mpr hi)
    simpa [Array.getElem?_eq_getElem hi] using q
  obtain ⟨i0, ei0⟩ := is_v gg3
  obtain rfl : w0 = (.int i0) := Option.some.inj ei0
  obtain ⟨i1, ei1⟩ := is_v gg5
  obtain rfl : w1 = (.int i1) := Option.some.inj ei1
  obtain ⟨i2, ei2⟩ := is_v gg6
  obtain rfl : w2 = (.int i2) := Option.some.inj ei2
  obtain ⟨n, o, h1, h2, h3, _, L, rfl, ⟨rv, N⟩, hq⟩ := own_rm0 l s _ hw tables_1 i0 i1 i2 s.heap s.heap.size (Nat.le_refl _) p e ha hc hk s m _ below hf ((Spec.applies_iff_loose hf).mp happ).1 ⟨rfl, State.Warmed39.refl s, rfl⟩ trivial
  rw [own_plain] at rv
  subst rv
  refine ⟨n, _, h1, h2, h3, hpost _ _ _ _ _ _ ⟨Cond.after_iff.mpr rfl, Cond.after_iff.mpr (eq_i res_at (Term.int_eval (1)) rfl), trivial⟩ ⟨hq.1, hq.2.1, (hq.2.2.sift fun y hy => Or.inr (N y hy)).mono (by decide) (by decide)⟩⟩
theorem main_1_1 : Claimed_1_1 := comes_1 fun _ _ _ _ _ _ h hF => ⟨h.1, hF⟩
theorem main_1_2 : Claimed_1_2 := comes_1 fun _ _ _ _ _ _ h hF => ⟨h.2.1, hF⟩
end Jvm.Pilot.@@N@@
namespace Jvm.Pilot.@@N@@
open Jvm Jvm.ClassFile Sem Op Lib Jvm.Free Jvm.Stand Jvm.Pilot.@@N@@.Jvm.D
/-! MADE BY PROGRAM (witnessworld.py) out of the Statement's table words and the real class files: 9 classes; the members and pool entries that the words name. The judged class is class 1, her method 2. -/
namespace start1
open Jvm.ClassFile
def u (s : String) : CpInfo := .utf8 (stringToUtf16 s)
/-- a pool by its gaps: so many unusable entries, then the entry; so many at the end -/
def gap : Nat → List CpInfo → List CpInfo
  | 0, r => r
  | n + 1, r => .unusable :: gap n r
def poolList (es : List (Nat × CpInfo)) (last : Nat) : List CpInfo := es.foldr (fun e r => gap e.1 (e.2 :: r)) (gap last [])
def pool (es : List (Nat × CpInfo)) (last : Nat) : Array CpInfo := ⟨poolList es last⟩
def fileOf (pool : Array CpInfo) (this : Nat) (attrs : Array Attribute := #[]) (ms : Array MethodInfo := #[]) (fl : Nat := 33) (sup : Nat := 0) (ifs : Array Nat := #[]) (fds : Array FieldInfo := #[]) : ClassFile where
  minorVersion := 0
  majorVersion := 65
  constantPool := pool
  accessFlags := fl
  thisClass := this
  superClass := sup
  interfaces := ifs
  fields := fds
  methods := ms
  attributes := attrs
def plain (name : String) (sup : Option ClassId) : Class where
  name := name
  kind := .ordinary
  loader := none
  accessFlags := 33
  super := sup
  interfaces := #[]
  cf := none
  fields := #[]
  methods := #[]
  instanceTypes := #[]
  staticTypes := #[]
  resolved := #[]
  callSites := []
  init := .initialized
  statics := none
  mirror := none

def pool0 : Array CpInfo := pool [(5, u "<init>"), (0, u "()V"), (1, .class_ 10), (1, u "java/lang/Object")] 113

def k0m0 : Method := { name := "<init>", desc := "()V", sig := { parameters := [], returnType := none }, accessFlags := 1, code := none }
/-- java/lang/Object -/
def k0 : Class := { plain "java/lang/Object" none with
  accessFlags := 33
  interfaces := #[]
  cf := some (fileOf pool0 8 #[] #[{ accessFlags := 1, nameIndex := 5, descriptorIndex := 6, attributes := #[] }] 33 0 #[] #[])
  fields := #[]
  methods := #[k0m0]
  instanceTypes := #[]
  staticTypes := #[]
  resolved := Array.replicate 124 none
  statics := none }

def pool1 : Array CpInfo := pool [(2, .class_ 4), (1, u "java/lang/Object"), (0, u "<init>"), (0, u "()V"), (0, .integer 65279), (0, .integer 2147483647), (0, .methodref 10 11), (0, .class_ 12), (0, .nameAndType 13 14), (0, u "com/example/monitorgen/monitorgen/property/Alphabet"), (0, u "isWhitespace"), (0, u "(I)Z"), (0, .methodref 16 17), (0, .class_ 18), (0, .nameAndType 19 14), (0, u "com/example/monitorgen/monitorgen/property/AlphabetIsWhitespacePinLaw"), (0, u "ref"), (3, u "law"), (0, u "(III)Z")] 4

def k1m0 : Method := { name := "<init>", desc := "()V", sig := { parameters := [], returnType := none }, accessFlags := 1, code := none }
def k1c1 : Code := { maxStack := 2, maxLocals := 1, code := method_2_code, exceptionTable := #[], attributes := #[] }
def k1m1 : Method := { name := "ref", desc := "(I)Z", sig := { parameters := [.int], returnType := some .boolean }, accessFlags := 10, code := some k1c1 }
def k1c2 : Code := { maxStack := 4, maxLocals := 7, code := code, exceptionTable := #[], attributes := #[] }
def k1m2 : Method := { name := "law", desc := "(III)Z", sig := { parameters := [.int, .int, .int], returnType := some .boolean }, accessFlags := 9, code := some k1c2 }
/-- com/example/monitorgen/monitorgen/property/AlphabetIsWhitespacePinLaw -/
def k1 : Class := { plain "com/example/monitorgen/monitorgen/property/AlphabetIsWhitespacePinLaw" (some 0) with
  accessFlags := 49
  interfaces := #[]
  cf := some (fileOf pool1 16 #[] #[{ accessFlags := 1, nameIndex := 5, descriptorIndex := 6, attributes := #[] }, { accessFlags := 10, nameIndex := 19, descriptorIndex := 14, attributes := #[] }, { accessFlags := 9, nameIndex := 23, descriptorIndex := 24, attributes := #[] }] 49 2 #[] #[])
  fields := #[]
  methods := #[k1m0, k1m1, k1m2]
  instanceTypes := #[]
  staticTypes := #[]
  resolved := Array.replicate 29 none
  statics := none }

def pool2 : Array CpInfo := pool [(2, .class_ 4), (1, u "java/lang/Object"), (3, .class_ 10), (1, u "com/example/monitorgen/monitorgen/property/Alphabet"), (0, u "_names"), (0, u "Ljava/util/List;"), (2, u "_numbers"), (0, u "Ljava/util/Map;"), (75, .class_ 94), (1, u "com/example/monitorgen/monitorgen/property/Alphabet$Encoded"), (47, u "isWhitespace"), (0, u "(I)Z"), (8, u "_encoded"), (0, u "Lcom/example/monitorgen/monitorgen/property/Alphabet$Encoded;")] 43

def k2c0 : Code := { maxStack := 2, maxLocals := 1, code := prog_30_method_7_code, exceptionTable := #[], attributes := #[] }
def k2m0 : Method := { name := "isWhitespace", desc := "(I)Z", sig := { parameters := [.int], returnType := some .boolean }, accessFlags := 9, code := some k2c0 }
/-- com/example/monitorgen/monitorgen/property/Alphabet -/
def k2 : Class := { plain "com/example/monitorgen/monitorgen/property/Alphabet" (some 0) with
  accessFlags := 49
  interfaces := #[]
  cf := some (fileOf pool2 8 #[.nestMembers #[92]] #[{ accessFlags := 9, nameIndex := 142, descriptorIndex := 143, attributes := #[] }] 49 2 #[] #[{ accessFlags := 18, nameIndex := 11, descriptorIndex := 12, attributes := #[] }, { accessFlags := 18, nameIndex := 15, descriptorIndex := 16, attributes := #[] }, { accessFlags := 2, nameIndex := 152, descriptorIndex := 153, attributes := #[] }])
  fields := #[{ name := "_names", type := (.object "java/util/List"), accessFlags := 18, slot := 0, constantValue := 0 }, { name := "_numbers", type := (.object "java/util/Map"), accessFlags := 18, slot := 1, constantValue := 0 }, { name := "_encoded", type := (.object "com/example/monitorgen/monitorgen/property/Alphabet$Encoded"), accessFlags := 2, slot := 2, constantValue := 0 }]
  methods := #[k2m0]
  instanceTypes := #[(.object "java/util/List"), (.object "java/util/Map"), (.object "com/example/monitorgen/monitorgen/property/Alphabet$Encoded")]
  staticTypes := #[]
  resolved := Array.replicate 197 none
  statics := none }

def pool3 : Array CpInfo := pool [(1, u "java/lang/Cloneable"), (0, .class_ 1), (0, u "java/lang/Object"), (0, .class_ 3)] 3

/-- java/lang/Cloneable -/
def k3 : Class := { plain "java/lang/Cloneable" (some 0) with
  accessFlags := 1537
  interfaces := #[]
  cf := some (fileOf pool3 2 #[] #[] 1537 4 #[] #[])
  fields := #[]
  methods := #[]
  instanceTypes := #[]
  staticTypes := #[]
  resolved := Array.replicate 8 none
  statics := none }

def pool4 : Array CpInfo := pool [(1, u "java/io/Serializable"), (0, .class_ 1), (0, u "java/lang/Object"), (0, .class_ 3)] 3

/-- java/io/Serializable -/
def k4 : Class := { plain "java/io/Serializable" (some 0) with
  accessFlags := 1537
  interfaces := #[]
  cf := some (fileOf pool4 2 #[] #[] 1537 4 #[] #[])
  fields := #[]
  methods := #[]
  instanceTypes := #[]
  staticTypes := #[]
  resolved := Array.replicate 8 none
  statics := none }

/-- the primitive byte -/
def k5 : Class := { plain "byte" none with kind := .primitive 'B', accessFlags := 0x411 }
/-- [B -/
def k6 : Class := { plain "[B" (some 0) with kind := .array 5 .byte, interfaces := #[3, 4], accessFlags := 1041 }

/-- the primitive int -/
def k7 : Class := { plain "int" none with kind := .primitive 'I', accessFlags := 0x411 }
/-- [I -/
def k8 : Class := { plain "[I" (some 0) with kind := .array 7 .int, interfaces := #[3, 4], accessFlags := 1041 }

def heap : Heap := #[]
def classes : Array Class := #[k0, k1, k2, k3, k4, k5, k6, k7, k8]
def interned : List (Array UInt16 × Addr) := []
def slotsUsed : Nat := 0
def theMethod : MethodId := ⟨1, 2⟩
def args0 : Array Value := #[.int 32, .int 5, .int 7]
def aboutOver (below : List Frame) : State where
  vm := { classes := classes, interned := interned.toArray }
  heap := heap
  slotsUsed := slotsUsed
  threads := #[{ frames := .invoking theMethod args0 :: below }]
def below0 : List Frame := [.native { method := ⟨0, 0⟩, args := #[] }]
def about1 : State := aboutOver below0
def p0 : Program := .bare "" "" ""
def e0 : Env := launch0.env 0 0 0
theorem w_frames : about1.frames = Frame.invoking theMethod args0 :: below0 := rfl
set_option maxRecDepth 65536 in
theorem w_args : argsFit about1.vm theMethod args0 = true := by decide +kernel
set_option maxRecDepth 65536 in
theorem w_heap : heapFits about1 = true := by decide +kernel
set_option maxRecDepth 65536 in
theorem w_runnable : about1.curStatus? = some .runnable := by decide +kernel
set_option maxRecDepth 65536 in
theorem w_alone : about1.alone = true := by decide +kernel
set_option maxRecDepth 65536 in
theorem w_named : about1.methodNamed? x = some theMethod := by decide +kernel
set_option maxRecDepth 65536 in
theorem w_hears : about1.hears theMethod below0 = true := by decide +kernel
set_option maxRecDepth 65536 in
theorem w_ripe : about1.ripe theMethod args0 below0 = true := by decide +kernel
theorem w_running : about1.status = .running := rfl
set_option maxRecDepth 65536 in
theorem w_room : about1.hasRoom e0.platform room_1 = true :=
  launch0.hasRoom_least _ room_1 (by decide +kernel) (by decide +kernel) (by decide +kernel) (by decide +kernel) (by decide +kernel) (by decide +kernel)
theorem allAtoms_all (ts : List Jvm.Cond) (a : Array Jvm.Value) (st : Jvm.State) : (allAtoms ts).before a st = ts.all (fun c => c.before a st) := by
  induction ts with
  | nil => rfl
  | cons c t ih =>
    show (Jvm.Cond.and c (allAtoms t)).before a st = _
    rw [Jvm.Cond.before_and, ih, List.all_cons]
def words1 : List Jvm.Cond := Jvm.Cond.code x code maxLocals ret :: tables_1
/-- a 'code' word, met by the world's own term for the bytes: nothing is compared byte by byte -/
theorem code_word {y : MethodName} {bytes : ByteArray} {mx : Nat} {rt : Option FieldType} {a : Array Value} {s : State} {m : MethodId} {meth : Method} {c : Code} (h1 : s.methodNamed? y = some m) (h2 : s.vm.method? m = some meth) (h3 : meth.code = some c) (h4 : c.code = bytes)
    (h5 : (c.maxLocals == mx && c.exceptionTable.isEmpty && decide (c.maxStack ≤ mostOperands) && decide (meth.sig.returnType = rt) && !meth.locks && decide (parseMethodDescriptor y.desc = some meth.sig)) = true) : (Jvm.Cond.code y bytes mx rt).before a s = true := by
  simp only [Bool.and_eq_true, beq_iff_eq, Bool.not_eq_true', decide_eq_true_eq] at h5
  obtain ⟨⟨⟨⟨⟨g1, g2⟩, g3⟩, g4⟩, g5⟩, g6⟩ := h5
  simp [Cond.before, Cond.holds, Cond.value, h1, h2, h3, h4, g1, g2, g3, g4, g5, g6]
def isCode : Jvm.Cond → Bool
  | .code _ _ _ _ => true
  | _ => false
theorem all_split {L : List Jvm.Cond} {P : Jvm.Cond → Bool} (h1 : L.all (fun c => isCode c || P c) = true) (h2 : ∀ c ∈ L.filter isCode, P c = true) : L.all P = true := by
  refine List.all_eq_true.mpr fun c hc => ?_
  have h := List.all_eq_true.mp h1 c hc
  rcases Bool.eq_false_or_eq_true (isCode c) with hi | hi
  · exact h2 c (List.mem_filter.mpr ⟨hc, hi⟩)
  · simpa [hi] using h
set_option maxRecDepth 65536 in
theorem w_c0 : (Jvm.Cond.code x code maxLocals ret).before args0 about1 = true := code_word (m := ⟨1, 2⟩) (meth := k1m2) (c := k1c2) (by decide +kernel) rfl rfl rfl (by decide +kernel)
set_option maxRecDepth 65536 in
theorem w_c1 : (Jvm.Cond.code ({ cls := "com/example/monitorgen/monitorgen/property/Alphabet", name := "isWhitespace", desc := "(I)Z" } : Jvm.MethodName) prog_30_method_7_code (1 : Nat) (Option.some Jvm.ClassFile.FieldType.boolean)).before args0 about1 = true := code_word (m := ⟨2, 0⟩) (meth := k2m0) (c := k2c0) (by decide +kernel) rfl rfl rfl (by decide +kernel)
set_option maxRecDepth 65536 in
theorem w_c2 : (Jvm.Cond.code ({ cls := "com/example/monitorgen/monitorgen/property/AlphabetIsWhitespacePinLaw", name := "ref", desc := "(I)Z" } : Jvm.MethodName) method_2_code (1 : Nat) (Option.some Jvm.ClassFile.FieldType.boolean)).before args0 about1 = true := code_word (m := ⟨1, 1⟩) (meth := k1m1) (c := k1c1) (by decide +kernel) rfl rfl rfl (by decide +kernel)
def codes1 : List Jvm.Cond := [Jvm.Cond.code x code maxLocals ret, Jvm.Cond.code ({ cls := "com/example/monitorgen/monitorgen/property/Alphabet", name := "isWhitespace", desc := "(I)Z" } : Jvm.MethodName) prog_30_method_7_code (1 : Nat) (Option.some Jvm.ClassFile.FieldType.boolean), Jvm.Cond.code ({ cls := "com/example/monitorgen/monitorgen/property/AlphabetIsWhitespacePinLaw", name := "ref", desc := "(I)Z" } : Jvm.MethodName) method_2_code (1 : Nat) (Option.some Jvm.ClassFile.FieldType.boolean)]
set_option maxRecDepth 65536 in
theorem codes_eq : words1.filter isCode = codes1 := rfl
theorem w_codes : ∀ c ∈ words1.filter isCode, c.before args0 about1 = true := by
  rw [codes_eq]
  intro c hc
  simp only [codes1, List.mem_cons, List.not_mem_nil, or_false] at hc
  rcases hc with rfl | rfl | rfl
  · exact w_c0
  · exact w_c1
  · exact w_c2
set_option maxRecDepth 65536 in
theorem w_t1 : words1.all (fun c => isCode c || c.before args0 about1) = true := by decide +kernel
theorem w_tables : (allAtoms (Jvm.Cond.code x code maxLocals ret :: tables_1)).before args0 about1 = true := by
  rw [allAtoms_all]
  show words1.all (fun c => c.before args0 about1) = true
  refine all_split ?_ w_codes
  rw [w_t1]
set_option maxRecDepth 65536 in
theorem w_case : (Jvm.Cond.and given_1 narrow_1).before args0 about1 = true := by decide +kernel
theorem w_applies : (headSpec (Jvm.Cond.code x code maxLocals ret :: tables_1) room_1).applies x e0.platform about1 = true :=
  (Spec.applies_iff w_frames).mpr ⟨w_running, w_runnable, w_alone, w_named, w_hears, w_ripe, w_room, w_tables⟩
theorem atStart : AtStart classFile x code maxLocals ret World_1 tables_1 room_1 Calls_1 rest_1 Pre_1 launch0 p0 e0 about1 theMethod args0 below0 :=
  ⟨lists_1, trivial, launch0.admits_env _ _ _, launch0.least_env, fairChoices_fair.cas, fairChoices_fair.clock, w_frames, w_args, w_heap, w_applies, trivial, trivial, w_case⟩
end start1
theorem witness_1 : WitnessClaimed_1 := ⟨start1.p0, start1.e0, start1.about1, start1.theMethod, start1.args0, start1.below0, start1.atStart⟩
end Jvm.Pilot.@@N@@
