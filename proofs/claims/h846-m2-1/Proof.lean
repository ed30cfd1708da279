import JvmDerived
import JvmDerived.Pilot.@@N@@Statement
import JvmDerived.Pilot.@@N@@Code
set_option linter.unusedVariables false
set_option linter.unusedSimpArgs false
@@BLOCK:NumsL.lean.txt@@
namespace Jvm.RoadKit
open Sem ClassFile Op Lib Jvm.Stand Jvm.Free Jvm.LawKit
section New
variable {p : Program} {l : Launch} {e : Env} {R : Room} {s : State} {m : MethodId} {args : Array Value} {below : List Frame} {meth : Method} {c : Code} {T : State} {locs : List Loc} {cells slots : Nat}
theorem retI (X : Stand p l e R s m args below meth c T locs cells slots) (hx : p.tables.exec = Jvm.exec) {pc : Nat} {Ls : Array Slot} {z : Int32} {rest : List Value} (hret : meth.sig.returnType = some .int) (hd : decode c.code pc = .ok (.ireturn, 1)) {fs : List Frame}
    (hl : ∀ (f : JFrame) (acts : List Action), f.method = m → f.locked = none → f.entered = [] → (doReturn e (T.setTop f) acts (some (.int z))).1 = T.setFrames fs) : Steps p.tables e below (T.setTop (mkF m pc Ls (.int z :: rest))) (T.setFrames fs) := by
  have hm' : T.vm.method? m = some meth := X.method'
  have hn : narrow .int (.int z) = .int z := rfl
  show Steps p.tables e below (T.setTop { method := m, pc := pc, locals := Ls, stack := _ :: rest, locked := none }) _
  jvm_step X.here [X.here.top, hx, hd, hm', hret, hn]
  first | (intro acts; rw [hl _ acts rfl rfl rfl]) | rw [hl _ _ rfl rfl rfl]
  exact Steps.refl _
def own_irem (x y : Int32) : Int32 := x - x / y * y
def own_lrem (x y : Int64) : Int64 := x - x / y * y
theorem own_retZ (X : Stand p l e R s m args below meth c T locs cells slots) (hx : p.tables.exec = Jvm.exec) {pc : Nat} {Ls : Array Slot} {z : Int32} {rest : List Value} (hret : meth.sig.returnType = some .boolean) (hz : z &&& 1 = z) (hd : decode c.code pc = .ok (.ireturn, 1)) {fs : List Frame}
    (hl : ∀ (f : JFrame) (acts : List Action), f.method = m → f.locked = none → f.entered = [] → (doReturn e (T.setTop f) acts (some (.int z))).1 = T.setFrames fs) : Steps p.tables e below (T.setTop (mkF m pc Ls (.int z :: rest))) (T.setFrames fs) :=
  retN X hx (t := .boolean) hret (by simp) hd (by rw [show nar .boolean z = z from hz]; exact hl)
theorem own_ite_bool {q : Prop} [Decidable q] {a b : Int32} (ha : a &&& 1 = a) (hb : b &&& 1 = b) : (if q then a else b) &&& 1 = (if q then a else b) := by split <;> assumption
theorem own_retJ (X : Stand p l e R s m args below meth c T locs cells slots) (hx : p.tables.exec = Jvm.exec) {pc : Nat} {Ls : Array Slot} {z : Int64} {rest : List Value} (hret : meth.sig.returnType = some .long) (hd : decode c.code pc = .ok (.lreturn, 1)) {fs : List Frame}
    (hl : ∀ (f : JFrame) (acts : List Action), f.method = m → f.locked = none → f.entered = [] → (doReturn e (T.setTop f) acts (some (.long z))).1 = T.setFrames fs) : Steps p.tables e below (T.setTop (mkF m pc Ls (.long z :: rest))) (T.setFrames fs) := by
  have hm' : T.vm.method? m = some meth := X.method'
  show Steps p.tables e below (T.setTop { method := m, pc := pc, locals := Ls, stack := _ :: rest, locked := none }) _
  jvm_step X.here [X.here.top, hx, hd, hm', hret, narrow]
  first | (intro acts; rw [hl _ acts rfl rfl rfl]) | rw [hl _ _ rfl rfl rfl]
  exact Steps.refl _
/-- the run goes from here to a state of which P holds -/
def own_Goes (tb : Tables) (e : Env) (below : List Frame) (P : State → Prop) (T : State) (f : JFrame) : Prop :=
  ∃ u, P u ∧ ∀ t, Steps tb e below u t → Steps tb e below (T.setTop f) t
theorem own_go {tb : Tables} {P : State → Prop} {T T' : State} {f f' : JFrame} (k : own_Goes tb e below P T' f') (h : ∀ t, Steps tb e below (T'.setTop f') t → Steps tb e below (T.setTop f) t) : own_Goes tb e below P T f := by
  obtain ⟨u, hu, hk⟩ := k
  exact ⟨u, hu, fun t q => h t (hk t q)⟩
theorem own_out {tb : Tables} {Q : Outcome → State → Prop} {T : State} {f : JFrame} (k : own_Goes tb e below (fun u => ∃ o, u.status = .running ∧ Ended u below o ∧ Q o u) T f) :
    ∃ s₂ o, Steps tb e below (T.setTop f) s₂ ∧ s₂.status = .running ∧ Ended s₂ below o ∧ Q o s₂ := by
  obtain ⟨u, ⟨o, h1, h2, h3⟩, hk⟩ := k
  exact ⟨u, o, hk u (Steps.refl _), h1, h2, h3⟩
theorem own_lsw {tb : Tables} [Ours tb] {T target : State} {g : JFrame} (h : At T m c below) (hx : tb.exec = Jvm.exec) (hg : g.method = m) {dflt : Int} {pairs : Array (Int × Int)} {len : Nat} {o : Int} {pc0 pc' : Nat} (hpc : g.pc = pc0) (hd : decode c.code g.pc = .ok (.lookupswitch dflt pairs, len)) {i : Int32} {rest : List Value} (hs : g.stack = .int i :: rest)
    (hord : (pairs.toList.zip (pairs.toList.drop 1)).all (fun (a, next) => a.1 < next.1) = true) (hoff : lookupswitch.offset pairs.toList dflt i.toInt = o) (ho : 0 ≤ (pc0 : Int) + o) (hp : ((pc0 : Int) + o).toNat = pc')
    (hr : Steps tb e below (T.setTop { g with pc := pc', stack := rest }) target) : Steps tb e below (T.setTop g) target := by
  subst hg hpc hp
  jvm_step h [h.top, hx, hd, hs, hoff, ho, lookupswitch.wp_chain]
  exact ⟨by simpa using hord, hr⟩
theorem own_ne_key {i k : Int32} (h : ¬ i = k) : ¬ (k.toInt = i.toInt) := fun q => h (Int32.toInt_inj.mp q.symm)
theorem own_selP {s : State} {args : Array Value} {y : MethodName} {n : Nat} (wi : (Cond.instantiable y.cls n).before args s = true) (hp : s.PrivateAt y) (hi : (Cond.instanceMethod y).before args s = true) (hy : y.cls ≠ "java/lang/invoke/MethodHandle" ∧ y.cls ≠ "java/lang/invoke/VarHandle") : (Cond.selects y.cls y y).before args s = true := by
  obtain ⟨c, k, h1, h2, -, h3, -⟩ := Cond.instantiable_spec wi
  simp only [Bool.or_eq_false_iff] at h3
  exact selects_self_of_private h1 h2 h3.1 hp hi hy
end New
end Jvm.RoadKit
namespace Jvm.RoadKit
open Sem ClassFile Op Lib Jvm.Stand Jvm.Free Jvm.LawKit
theorem own_lt32 {x y : Int32} : x < y ↔ x.toInt < y.toInt := Int32.lt_iff_toInt_lt
theorem own_eq32 {x y : Int32} : x = y ↔ x.toInt = y.toInt := (Int32.toInt_inj).symm
theorem own_mod32 (x y : Int32) : (own_irem x y).toInt = x.toInt.tmod y.toInt := by
  rw [show own_irem x y = x % y from irem_eq_mod x y]; exact Int32.toInt_mod x y
theorem own_pos31 (x : Int32) : (x &&& (2147483647 : Int32)).toInt = x.toInt % 2147483648 := Jvm.Kit.i32_mask x 2147483647 (k := 31) (by decide) (by decide)
theorem own_rem31 (x : Int32) (y : Int32) (hy : 0 < y.toInt) : (own_irem (x &&& (2147483647 : Int32)) y).toInt = (x.toInt % 2147483648) % y.toInt := by
  rw [own_mod32, own_pos31, Int.tmod_eq_emod_of_nonneg (by omega)]
theorem own_and3 (x : Int32) : (x &&& (3 : Int32)).toInt = x.toInt % 4 := Jvm.Kit.i32_mask x 3 (k := 2) (by decide) (by decide)
theorem own_and7 (x : Int32) : (x &&& (7 : Int32)).toInt = x.toInt % 8 := Jvm.Kit.i32_mask x 7 (k := 3) (by decide) (by decide)
theorem own_and63 (x : Int32) : (x &&& (63 : Int32)).toInt = x.toInt % 64 := Jvm.Kit.i32_mask x 63 (k := 6) (by decide) (by decide)
theorem own_and255 (x : Int32) : (x &&& (255 : Int32)).toInt = x.toInt % 256 := Jvm.Kit.i32_mask x 255 (k := 8) (by decide) (by decide)
theorem own_add_ok {x y : Int32} (h1 : -2147483648 ≤ x.toInt + y.toInt) (h2 : x.toInt + y.toInt < 2147483648) : (x + y).toInt = x.toInt + y.toInt := Jvm.Kit.i32_add (by omega) (by omega)
theorem own_sub_ok {x y : Int32} (h1 : -2147483648 ≤ x.toInt - y.toInt) (h2 : x.toInt - y.toInt < 2147483648) : (x - y).toInt = x.toInt - y.toInt := Jvm.Kit.i32_sub (by omega) (by omega)
theorem own_nat32 {x : Int32} (h : 0 ≤ x.toInt) : (x.toNatClampNeg : Int) = x.toInt := by simp only [Int32.toNatClampNeg]; omega
theorem own_rng (x : Int32) : -2147483648 ≤ x.toInt ∧ x.toInt < 2147483648 := ⟨x.le_toInt, x.toInt_lt⟩
theorem own_m3 (y : Int32) : ¬ (y &&& (3 : Int32)) < (0 : Int32) ∧ (y &&& (3 : Int32)).toNatClampNeg ≤ 3 := by
  have e := own_and3 y
  refine ⟨?_, ?_⟩
  · rw [own_lt32, e, show (0 : Int32).toInt = 0 from rfl]; omega
  · have := own_nat32 (x := y &&& 3) (by omega); omega
end Jvm.RoadKit
namespace Jvm.RoadKit
open Sem ClassFile Op Lib Jvm.Stand Jvm.Free Jvm.LawKit
section OwnArr
variable {p : Program} {l : Launch} {e : Env} {R : Room} {s : State} {m : MethodId} {args : Array Value} {below : List Frame} {meth : Method} {c : Code} {T : State} {locs : List Loc} {cells slots : Nat}
variable {Z : State} {h h' : Heap} {a b : Addr} {sl : Nat} {v : Value} {ws : List Addr} {n : Int32} {L : List Int32} {M : List Int64} {ty : FieldType} {k : ClassId}
/-- an array of ints (bytes, chars): its length and what it holds -/
def own_AI (Z : State) (h : Heap) (a : Addr) (ty : FieldType) (n : Int32) (L : List Int32) : Prop := L.length = n.toNatClampNeg ∧ ∃ k, Arv Z h a k ty n (L.map Value.int) (.int 0)
def own_AJ (Z : State) (h : Heap) (a : Addr) (n : Int32) (M : List Int64) : Prop := M.length = n.toNatClampNeg ∧ ∃ k, Arv Z h a k .long n (M.map Value.long) (.long 0)
theorem own_AI.lt (F : own_AI Z h a ty n L) : a < h.size := by obtain ⟨_, _, A⟩ := F; exact A.lt
theorem own_AJ.lt (F : own_AJ Z h a n M) : a < h.size := by obtain ⟨_, _, A⟩ := F; exact A.lt
theorem own_AI.ext (F : own_AI Z h a ty n L) (E : Ext h h') : own_AI Z h' a ty n L := by obtain ⟨q, k, A⟩ := F; exact ⟨q, k, A.ext E⟩
theorem own_AJ.ext (F : own_AJ Z h a n M) (E : Ext h h') : own_AJ Z h' a n M := by obtain ⟨q, k, A⟩ := F; exact ⟨q, k, A.ext E⟩
theorem own_AI.other (F : own_AI Z h b ty n L) (W : Wr h h' a sl v) (q : b ≠ a) : own_AI Z h' b ty n L := by obtain ⟨r, k, A⟩ := F; exact ⟨r, k, A.other W q⟩
theorem own_AJ.other (F : own_AJ Z h b n M) (W : Wr h h' a sl v) (q : b ≠ a) : own_AJ Z h' b n M := by obtain ⟨r, k, A⟩ := F; exact ⟨r, k, A.other W q⟩
theorem own_AI.keep (F : own_AI Z h a ty n L) (K : Keep h h' ws) (q : a ∉ ws) : own_AI Z h' a ty n L := by obtain ⟨r, k, A⟩ := F; exact ⟨r, k, A.keep K q⟩
theorem own_AJ.keep (F : own_AJ Z h a n M) (K : Keep h h' ws) (q : a ∉ ws) : own_AJ Z h' a n M := by obtain ⟨r, k, A⟩ := F; exact ⟨r, k, A.keep K q⟩
theorem own_AI.new (A : Arr Z h a (newA k ty n) ty) (q : ¬ n < 0) (hd : defaultValue ty = .int 0) : own_AI Z h a ty n (List.replicate n.toNatClampNeg 0) := by
  refine ⟨by simp, k, ?_⟩
  have B := Arv.new A q
  rw [hd] at B
  rw [List.map_replicate]
  exact B.pad (pad_rep [] _ _)
theorem own_AJ.new (A : Arr Z h a (newA k .long n) .long) (q : ¬ n < 0) : own_AJ Z h a n (List.replicate n.toNatClampNeg 0) := by
  refine ⟨by simp, k, ?_⟩
  have B := Arv.new A q
  rw [List.map_replicate]
  exact B.pad (pad_rep [] _ _)
theorem own_getD_int (L : List Int32) (i : Nat) : (L.map Value.int).getD i (.int 0) = .int (L.getD i 0) := by
  simp only [List.getD_eq_getElem?_getD, List.getElem?_map]
  cases L[i]? <;> rfl
theorem own_getD_long (M : List Int64) (i : Nat) : (M.map Value.long).getD i (.long 0) = .long (M.getD i 0) := by
  simp only [List.getD_eq_getElem?_getD, List.getElem?_map]
  cases M[i]? <;> rfl
theorem own_inl {j : Int32} {len : Nat} (q : len = n.toNatClampNeg) (hj : ¬ j < 0 ∧ j < n) : j.toNatClampNeg < len := by
  rw [q]; obtain ⟨q1, q2⟩ := hj
  rw [Int32.lt_iff_toInt_lt] at q1 q2
  have e0 : (0 : Int32).toInt = 0 := rfl
  simp only [Int32.toNatClampNeg] at *; omega
theorem own_ldI (X : Stand p l e R s m args below meth c T locs cells slots) (hx : p.tables.exec = Jvm.exec) (hZ : Z.Warmed39 s.vm) (eT : T.heap = h) (F : own_AI Z h a .int n L) {j : Int32} (hj : ¬ j < 0 ∧ j < n) {g : JFrame} (hg : g.method = m) {rest : List Value} (hs : g.stack = .int j :: .ref a :: rest) (hd : decode c.code g.pc = .ok (.iaload, 1)) :
    ∀ target, Steps p.tables e below (T.setTop { g with pc := g.pc + 1, stack := .int (L.getD j.toNatClampNeg 0) :: rest }) target → Steps p.tables e below (T.setTop g) target := by
  intro target hk
  obtain ⟨q, k, cl, A, r1, S, r3, H, G⟩ := F
  have hin := inb_of S hj
  exact X.iaload hx (j := j) (v := .int (L.getD j.toNatClampNeg 0)) (by rw [eT]; exact A.1) (State.isArrayOf_alike hZ.alike A.2.1) A.2.2 hin (H.at hin (own_getD_int L _)) hg hs hd _ hk
theorem own_ldB (X : Stand p l e R s m args below meth c T locs cells slots) (hx : p.tables.exec = Jvm.exec) (hZ : Z.Warmed39 s.vm) (eT : T.heap = h) (F : own_AI Z h a .byte n L) {j : Int32} (hj : ¬ j < 0 ∧ j < n) {g : JFrame} (hg : g.method = m) {rest : List Value} (hs : g.stack = .int j :: .ref a :: rest) (hd : decode c.code g.pc = .ok (.baload, 1)) :
    ∀ target, Steps p.tables e below (T.setTop { g with pc := g.pc + 1, stack := .int (L.getD j.toNatClampNeg 0) :: rest }) target → Steps p.tables e below (T.setTop g) target := by
  intro target hk
  obtain ⟨q, k, cl, A, r1, S, r3, H, G⟩ := F
  have hin := inb_of S hj
  exact X.baloadBytes hx (j := j) (v := .int (L.getD j.toNatClampNeg 0)) (by rw [eT]; exact A.1) (State.isArrayOf_alike hZ.alike A.2.1) A.2.2 hin (H.at hin (own_getD_int L _)) hg hs hd _ hk
theorem own_ldJ (X : Stand p l e R s m args below meth c T locs cells slots) (hx : p.tables.exec = Jvm.exec) (hZ : Z.Warmed39 s.vm) (eT : T.heap = h) (F : own_AJ Z h a n M) {j : Int32} (hj : ¬ j < 0 ∧ j < n) {g : JFrame} (hg : g.method = m) {rest : List Value} (hs : g.stack = .int j :: .ref a :: rest) (hd : decode c.code g.pc = .ok (.laload, 1)) :
    ∀ target, Steps p.tables e below (T.setTop { g with pc := g.pc + 1, stack := .long (M.getD j.toNatClampNeg 0) :: rest }) target → Steps p.tables e below (T.setTop g) target := by
  intro target hk
  obtain ⟨q, k, cl, A, r1, S, r3, H, G⟩ := F
  have hin := inb_of S hj
  exact X.laload hx (j := j) (v := .long (M.getD j.toNatClampNeg 0)) (by rw [eT]; exact A.1) (State.isArrayOf_alike hZ.alike A.2.1) A.2.2 hin (H.at hin (own_getD_long M _)) hg hs hd _ hk
theorem own_len (X : Stand p l e R s m args below meth c T locs cells slots) (hx : p.tables.exec = Jvm.exec) (hZ : Z.Warmed39 s.vm) (eT : T.heap = h) (F : own_AI Z h a ty n L) {g : JFrame} (hg : g.method = m) {rest : List Value} (hs : g.stack = .ref a :: rest) (hd : decode c.code g.pc = .ok (.arraylength, 1)) :
    ∀ target, Steps p.tables e below (T.setTop { g with pc := g.pc + 1, stack := .int n :: rest }) target → Steps p.tables e below (T.setTop g) target := by
  intro target hk
  obtain ⟨q, k, cl, A, r1, S, r3, H, G⟩ := F
  refine X.arraylength hx (by rw [eT]; exact A.1) (State.isArrayOf_alike hZ.alike A.2.1) hg hs hd _ ?_
  rw [len_of S r3]; exact hk
theorem own_lenJ (X : Stand p l e R s m args below meth c T locs cells slots) (hx : p.tables.exec = Jvm.exec) (hZ : Z.Warmed39 s.vm) (eT : T.heap = h) (F : own_AJ Z h a n M) {g : JFrame} (hg : g.method = m) {rest : List Value} (hs : g.stack = .ref a :: rest) (hd : decode c.code g.pc = .ok (.arraylength, 1)) :
    ∀ target, Steps p.tables e below (T.setTop { g with pc := g.pc + 1, stack := .int n :: rest }) target → Steps p.tables e below (T.setTop g) target := by
  intro target hk
  obtain ⟨q, k, cl, A, r1, S, r3, H, G⟩ := F
  refine X.arraylength hx (by rw [eT]; exact A.1) (State.isArrayOf_alike hZ.alike A.2.1) hg hs hd _ ?_
  rw [len_of S r3]; exact hk
theorem own_stI (X : Stand p l e R s m args below meth c T locs cells slots) (hx : p.tables.exec = Jvm.exec) (hZ : Z.Warmed39 s.vm) (eT : T.heap = h) (F : own_AI Z h a .int n L) {j x : Int32} (hj : ¬ j < 0 ∧ j < n) {g : JFrame} (hg : g.method = m) {rest : List Value} (hs : g.stack = .int x :: .int j :: .ref a :: rest) (hd : decode c.code g.pc = .ok (.iastore, 1)) :
    ∃ T' h', Stand p l e R s m args below meth c T' (locs ++ [⟨a, j.toNatClampNeg⟩]) cells slots ∧ T'.heap = h' ∧ Wr h h' a j.toNatClampNeg (.int x) ∧ own_AI Z h' a .int n (L.set j.toNatClampNeg x) ∧ ∀ target, Steps p.tables e below (T'.setTop { g with pc := g.pc + 1, stack := rest }) target → Steps p.tables e below (T.setTop g) target := by
  obtain ⟨q, k, cl, A, r1, S, r3, H, G⟩ := F
  obtain ⟨T', h', X', e', W, st⟩ := stI X hx hZ eT A (inb_of S hj) hg hs hd
  refine ⟨T', h', X', e', W, ⟨by simp [q], k, ?_⟩, st⟩
  have B := Arv.set A r1 S r3 H G (v := .int x) rfl W j.toNatClampNeg rfl (by rw [List.length_map]; exact own_inl q hj)
  rw [List.map_set]; exact B
theorem own_stB (X : Stand p l e R s m args below meth c T locs cells slots) (hx : p.tables.exec = Jvm.exec) (hZ : Z.Warmed39 s.vm) (eT : T.heap = h) (F : own_AI Z h a .byte n L) {j x : Int32} (hj : ¬ j < 0 ∧ j < n) {g : JFrame} (hg : g.method = m) {rest : List Value} (hs : g.stack = .int x :: .int j :: .ref a :: rest) (hd : decode c.code g.pc = .ok (.bastore, 1)) :
    ∃ T' h', Stand p l e R s m args below meth c T' (locs ++ [⟨a, j.toNatClampNeg⟩]) cells slots ∧ T'.heap = h' ∧ Wr h h' a j.toNatClampNeg (.int x.toInt8.toInt32) ∧ own_AI Z h' a .byte n (L.set j.toNatClampNeg x.toInt8.toInt32) ∧ ∀ target, Steps p.tables e below (T'.setTop { g with pc := g.pc + 1, stack := rest }) target → Steps p.tables e below (T.setTop g) target := by
  obtain ⟨q, k, cl, A, r1, S, r3, H, G⟩ := F
  obtain ⟨T', h', X', e', W, st⟩ := stB X hx hZ eT A (inb_of S hj) hg hs hd
  refine ⟨T', h', X', e', W, ⟨by simp [q], k, ?_⟩, st⟩
  have B := Arv.set A r1 S r3 H G (v := .int x.toInt8.toInt32) (fits_nar_byte _) W j.toNatClampNeg rfl (by rw [List.length_map]; exact own_inl q hj)
  rw [List.map_set]; exact B
theorem own_stJ (X : Stand p l e R s m args below meth c T locs cells slots) (hx : p.tables.exec = Jvm.exec) (hZ : Z.Warmed39 s.vm) (eT : T.heap = h) (F : own_AJ Z h a n M) {j : Int32} {x : Int64} (hj : ¬ j < 0 ∧ j < n) {g : JFrame} (hg : g.method = m) {rest : List Value} (hs : g.stack = .long x :: .int j :: .ref a :: rest) (hd : decode c.code g.pc = .ok (.lastore, 1)) :
    ∃ T' h', Stand p l e R s m args below meth c T' (locs ++ [⟨a, j.toNatClampNeg⟩]) cells slots ∧ T'.heap = h' ∧ Wr h h' a j.toNatClampNeg (.long x) ∧ own_AJ Z h' a n (M.set j.toNatClampNeg x) ∧ ∀ target, Steps p.tables e below (T'.setTop { g with pc := g.pc + 1, stack := rest }) target → Steps p.tables e below (T.setTop g) target := by
  obtain ⟨q, k, cl, A, r1, S, r3, H, G⟩ := F
  obtain ⟨T', h', X', e', W, st⟩ := stJ X hx hZ eT A (inb_of S hj) hg hs hd
  refine ⟨T', h', X', e', W, ⟨by simp [q], k, ?_⟩, st⟩
  have B := Arv.set A r1 S r3 H G (v := .long x) rfl W j.toNatClampNeg rfl (by rw [List.length_map]; exact own_inl q hj)
  rw [List.map_set]; exact B
end OwnArr
end Jvm.RoadKit
namespace Jvm.RoadKit
open Sem ClassFile Op Lib Jvm.Stand Jvm.Free Jvm.LawKit
section OwnIdx
variable {Z : State} {h : Heap} {a : Addr} {n : Int32} {L : List Int32} {ty : FieldType} {i : Nat}
theorem own_ofNat_toInt {i : Nat} (hi : i < 2 ^ 31) : (Int32.ofNat i).toInt = (i : Int) := Int32.toInt_ofNat_of_lt hi
theorem own_AI.len (A : own_AI Z h a ty n L) : n.toInt = (L.length : Int) ∧ L.length < 2 ^ 31 := by
  obtain ⟨q, k, cl, A, r1, S, r3, H, G⟩ := A
  rw [Int32.lt_iff_toInt_lt] at r3
  have e0 : (0 : Int32).toInt = 0 := rfl
  have := n.toInt_lt
  simp only [Int32.toNatClampNeg] at q; omega
theorem own_AI.lt_iff (A : own_AI Z h a ty n L) (hi : i ≤ L.length) : Int32.ofNat i < n ↔ i < L.length := by
  obtain ⟨q, r⟩ := A.len
  rw [Int32.lt_iff_toInt_lt, own_ofNat_toInt (by omega), q]; omega
theorem own_AI.eq_iff (A : own_AI Z h a ty n L) (hi : i ≤ L.length) : Int32.ofNat i = n ↔ i = L.length := by
  obtain ⟨q, r⟩ := A.len
  rw [← Int32.toInt_inj, own_ofNat_toInt (by omega), q]; omega
theorem own_AI.inb (A : own_AI Z h a ty n L) (hi : i < L.length) : ¬ Int32.ofNat i < 0 ∧ Int32.ofNat i < n := by
  obtain ⟨q, r⟩ := A.len
  refine ⟨?_, (A.lt_iff (Nat.le_of_lt hi)).mpr hi⟩
  have e0 : (0 : Int32).toInt = 0 := rfl
  rw [Int32.lt_iff_toInt_lt, own_ofNat_toInt (by omega), e0]; omega
theorem own_at_ofNat {i : Nat} (hi : i < 2 ^ 31) : (Int32.ofNat i).toNatClampNeg = i := by
  simp only [Int32.toNatClampNeg, own_ofNat_toInt hi]; rfl
theorem own_succ (i : Nat) : Int32.ofNat i + (1 : Int32) = Int32.ofNat (i + 1) := by rw [Int32.ofNat_add]; rfl
end OwnIdx
end Jvm.RoadKit
namespace Jvm.RoadKit
open Sem ClassFile Op Lib Jvm.Stand Jvm.Free Jvm.LawKit
section OwnSta
variable {s : State} {args : Array Value} {a : Addr} {cl : Cell} {ty : FieldType} {t : Term}
theorem own_len_of {z : Int32} (ev : t.eval args s none [] s = some (.ref a)) (A : Arr s s.heap a cl ty) (h : (Cond.eq (Term.length t) (Term.int z)).value args s none s [] = some true) : cl.slots.size < 2 ^ 31 ∧ cl.slots.size.toInt32 = z := by
  have e := eqv_i (Term.int_eval z) h
  have ha := A.fin (Vm.Alike.refl _)
  simp only [Term.eval, ev, ha, Option.bind_eq_bind, Option.bind_some] at e
  by_cases q : cl.slots.size < 2147483648
  · simp [q] at e; exact ⟨q, e⟩
  · simp [q] at e
theorem own_el_of {j v : Int32} (ev : t.eval args s none [] s = some (.ref a)) (A : Arr s s.heap a cl ty) (h : (Cond.eq (Term.elem t (Term.int j)) (Term.int v)).value args s none s [] = some true) : cl.slots[j.toNatClampNeg]? = some (.int v) :=
  (elem_in (eqv_i (Term.int_eval v) h) ev (Term.int_eval j) A.1).2
end OwnSta
end Jvm.RoadKit
namespace Jvm.Pilot.@@N@@
open Jvm Jvm.ClassFile Sem Op Lib Jvm.Free Jvm.Stand Jvm.LawKit Jvm.RoadKit Bundle Jvm.Pilot.@@N@@.Jvm.D
theorem own_pl {xa : Int32} (hp : ¬ xa < (0 : Int32) ∧ xa < (3 : Int32)) (d : Int32) (hd : d = 0 ∨ d = 1 ∨ d = 2 := by decide) : ¬ (xa + d) < 0 ∧ (xa + d) < (5 : Int32) := by
  rw [own_lt32, own_lt32, show (0 : Int32).toInt = 0 from rfl, show (3 : Int32).toInt = 3 from rfl] at hp
  have hd2 : d.toInt = 0 ∨ d.toInt = 1 ∨ d.toInt = 2 := by rcases hd with rfl | rfl | rfl <;> decide
  have a := own_add_ok (x := xa) (y := d) (by omega) (by omega)
  rw [own_lt32, own_lt32, a, show (0 : Int32).toInt = 0 from rfl, show (5 : Int32).toInt = 5 from rfl]; omega
theorem own_pl0 {xa : Int32} (hp : ¬ xa < (0 : Int32) ∧ xa < (3 : Int32)) : ¬ xa < 0 ∧ xa < (5 : Int32) := by
  rw [own_lt32, own_lt32, show (0 : Int32).toInt = 0 from rfl, show (3 : Int32).toInt = 3 from rfl] at hp
  rw [own_lt32, own_lt32, show (0 : Int32).toInt = 0 from rfl, show (5 : Int32).toInt = 5 from rfl]; omega
theorem own_pn0 : plainName "com/example/monitorgen/monitorgen/trace/Utf8Text" = true := by first | (simp [plainName, overriddenIn]; done) | decide +kernel
theorem own_d1_0 : decode prog_75_method_5_code 0 = .ok (.iconst 0, 1) := by decide +kernel
theorem own_d1_1 : decode prog_75_method_5_code 1 = .ok (.istore_n 3, 1) := by decide +kernel
theorem own_d1_2 : decode prog_75_method_5_code 2 = .ok (.iload_n 3, 1) := by decide +kernel
theorem own_d1_3 : decode prog_75_method_5_code 3 = .ok (.getstatic 132, 3) := by decide +kernel
theorem own_d1_6 : decode prog_75_method_5_code 6 = .ok (.arraylength, 1) := by decide +kernel
theorem own_d1_7 : decode prog_75_method_5_code 7 = .ok (.if_icmp .ge 33, 3) := by decide +kernel
theorem own_d1_10 : decode prog_75_method_5_code 10 = .ok (.iload_n 1, 1) := by decide +kernel
theorem own_d1_11 : decode prog_75_method_5_code 11 = .ok (.iload_n 3, 1) := by decide +kernel
theorem own_d1_12 : decode prog_75_method_5_code 12 = .ok (.iadd, 1) := by decide +kernel
theorem own_d1_13 : decode prog_75_method_5_code 13 = .ok (.iload_n 2, 1) := by decide +kernel
theorem own_d1_14 : decode prog_75_method_5_code 14 = .ok (.if_icmp .ne 5, 3) := by decide +kernel
theorem own_d1_17 : decode prog_75_method_5_code 17 = .ok (.iconst (-1), 1) := by decide +kernel
theorem own_d1_18 : decode prog_75_method_5_code 18 = .ok (.ireturn, 1) := by decide +kernel
theorem own_d1_19 : decode prog_75_method_5_code 19 = .ok (.aload_n 0, 1) := by decide +kernel
theorem own_d1_20 : decode prog_75_method_5_code 20 = .ok (.iload_n 1, 1) := by decide +kernel
theorem own_d1_21 : decode prog_75_method_5_code 21 = .ok (.iload_n 3, 1) := by decide +kernel
theorem own_d1_22 : decode prog_75_method_5_code 22 = .ok (.iadd, 1) := by decide +kernel
theorem own_d1_23 : decode prog_75_method_5_code 23 = .ok (.baload, 1) := by decide +kernel
theorem own_d1_24 : decode prog_75_method_5_code 24 = .ok (.getstatic 132, 3) := by decide +kernel
theorem own_d1_27 : decode prog_75_method_5_code 27 = .ok (.iload_n 3, 1) := by decide +kernel
theorem own_d1_28 : decode prog_75_method_5_code 28 = .ok (.baload, 1) := by decide +kernel
theorem own_d1_29 : decode prog_75_method_5_code 29 = .ok (.if_icmp .eq 5, 3) := by decide +kernel
theorem own_d1_32 : decode prog_75_method_5_code 32 = .ok (.iconst 0, 1) := by decide +kernel
theorem own_d1_33 : decode prog_75_method_5_code 33 = .ok (.ireturn, 1) := by decide +kernel
theorem own_d1_34 : decode prog_75_method_5_code 34 = .ok (.iinc 3 1, 3) := by decide +kernel
theorem own_d1_37 : decode prog_75_method_5_code 37 = .ok (.goto (-35), 3) := by decide +kernel
theorem own_d1_40 : decode prog_75_method_5_code 40 = .ok (.getstatic 132, 3) := by decide +kernel
theorem own_d1_43 : decode prog_75_method_5_code 43 = .ok (.arraylength, 1) := by decide +kernel
theorem own_d1_44 : decode prog_75_method_5_code 44 = .ok (.ireturn, 1) := by decide +kernel
def own_f1 (xa : Int32) (xb : Int32) (LA : List Int32) : Int32 := (if (xa + (0 : Int32)) = xb then (-1 : Int32) else (if (LA.getD ((xa + (0 : Int32))).toNatClampNeg 0) = (-17 : Int32) then (if (xa + (1 : Int32)) = xb then (-1 : Int32) else (if (LA.getD ((xa + (1 : Int32))).toNatClampNeg 0) = (-69 : Int32) then (if (xa + (2 : Int32)) = xb then (-1 : Int32) else (if (LA.getD ((xa + (2 : Int32))).toNatClampNeg 0) = (-65 : Int32) then (3 : Int32) else (0 : Int32))) else (0 : Int32))) else (0 : Int32)))
theorem own_ef1 (m : MethodId) (oa : Addr) (xa : Int32) (xb : Int32) : entryFrame m #[(.ref oa), (.int xa), (.int xb)] 4 = mkF m 0 #[.val (.ref oa), .val (.int xa), .val (.int xb), .unset] [] := by first | (simp [entryFrame, mkF, argsToLocals, Value.category]; done) | rfl
abbrev own_room1 : Room := { frames := 0, cells := 0, slots := 0, locals := 0 }
def own_Q1 (Z : State) (oa : Addr) (xa : Int32) (xb : Int32) (os : Addr) (LA : List Int32) (h0 : Heap) (n0 : Nat) (v : Option Value) (h : Heap) (L : List Loc) : Prop := v = some (.int (own_f1 xa xb LA)) ∧ Fr n0 L ∧ h = h0
set_option maxRecDepth 65536 in
set_option maxHeartbeats 40000000 in
theorem own_rm1 (l : Launch) (Z : State) (a0 : Array Value) (hw : ∀ d ∈ tables_1, d.before a0 Z = true) (ws : List Jvm.Cond) (oa : Addr) (xa : Int32) (xb : Int32) (os : Addr) (LA : List Int32) (h0 : Heap) (n0 : Nat) (Z0 : n0 ≤ h0.size) (S_bom : Sta Z h0 "com/example/monitorgen/monitorgen/trace/Utf8Text" "BYTE_ORDER_MARK" "[B" (.ref os)) (A_os : own_AI Z h0 os .byte (3 : Int32) [(-17 : Int32), (-69 : Int32), (-65 : Int32)]) (A_oa : own_AI Z h0 oa .byte (5 : Int32) LA) (hp : ¬ xa < (0 : Int32) ∧ xa < (3 : Int32)) :
    MetFree l (⟨"com/example/monitorgen/monitorgen/trace/Utf8Text", "byteOrderMarkLength", "([BII)I"⟩ : MethodName) (head1 (Jvm.Cond.code (⟨"com/example/monitorgen/monitorgen/trace/Utf8Text", "byteOrderMarkLength", "([BII)I"⟩ : MethodName) prog_75_method_5_code 4 (some .int) :: ws) own_room1) (fun a U => a = #[(.ref oa), (.int xa), (.int xb)] ∧ Z.Warmed39 U.vm ∧ U.heap = h0) (fun _ _ _ _ _ => True) (fun _ U o U' => ∃ v L, o = .returned v ∧ own_Q1 Z oa xa xb os LA h0 n0 v U'.heap L ∧ FrameEnd U o U' L own_room1.cells own_room1.slots) := by
  refine MetFree.of_bodySF (plainFor_of_name own_pn0) hisR ?_
  intro p e s m args below meth c s₁ Bd hml0 hP hK
  obtain ⟨rfl, hZ, hh⟩ := hP
  have hx := Bd.exec
  have hby := Bd.bytes
  have hml : c.maxLocals = 4 := hml0
  have hown : s.vm.findClass "com/example/monitorgen/monitorgen/trace/Utf8Text" = some m.cls := findClass_of_methodNamed Bd.named
  have hnm := (name_of_methodNamed Bd.named Bd.method).1
  have X0 : Stand p l e own_room1 s m #[(.ref oa), (.int xa), (.int xb)] below meth c s₁ [] 0 0 := Stand.of_body Bd
  have e0 : s₁.heap = h0 := by rw [← hh, Bd.state]; rfl
  have N0 := Fr.nil n0
  refine own_out (Q := fun o U' => ∃ v L, o = .returned v ∧ own_Q1 Z oa xa xb os LA h0 n0 v U'.heap L ∧ FrameEnd s o U' L own_room1.cells own_room1.slots) ?_
  refine own_go (T' := s₁) (f' := (mkF m 0 #[.val (.ref oa), .val (.int xa), .val (.int xb), .unset] [])) ?_ (fun _ k => castTop (own_ef1 m oa xa xb) k)
  refine own_go (T' := s₁) (f' := (mkF m 1 #[.val (.ref oa), .val (.int xa), .val (.int xb), .unset] [(.int (0 : Int32))])) ?_ (fun _ k => XS.iconst X0.here hx rfl (hb hby own_d1_0) k)
  refine own_go (T' := s₁) (f' := (mkF m 2 #[.val (.ref oa), .val (.int xa), .val (.int xb), .val (.int (0 : Int32))] [])) ?_ (fun _ k => XS.istoreN X0.here hx rfl (hb hby own_d1_1) rfl (l' := #[.val (.ref oa), .val (.int xa), .val (.int xb), .val (.int (0 : Int32))]) rfl k)
  refine own_go (T' := s₁) (f' := (mkF m 3 #[.val (.ref oa), .val (.int xa), .val (.int xb), .val (.int (0 : Int32))] [(.int (0 : Int32))])) ?_ (fun _ k => XS.iloadN X0.here hx rfl (hb hby own_d1_2) rfl  k)
  obtain ⟨T1, X1, e1, st1⟩ := getS2 X0 hx hZ hown (host := "") (Or.inl (hw _ (List.mem_of_getElem? (i := 6) rfl))) Via.refl e0 S_bom (g := (mkF m 3 #[.val (.ref oa), .val (.int xa), .val (.int xb), .val (.int (0 : Int32))] [(.int (0 : Int32))])) rfl (hb hby own_d1_3)
  refine own_go (T' := T1) (f' := (mkF m 6 #[.val (.ref oa), .val (.int xa), .val (.int xb), .val (.int (0 : Int32))] [(.ref os), (.int (0 : Int32))])) ?_ (st1)
  refine own_go (T' := T1) (f' := (mkF m 7 #[.val (.ref oa), .val (.int xa), .val (.int xb), .val (.int (0 : Int32))] [(.int (3 : Int32)), (.int (0 : Int32))])) ?_ (own_len X1 hx hZ e1 A_os (g := (mkF m 6 #[.val (.ref oa), .val (.int xa), .val (.int xb), .val (.int (0 : Int32))] [(.ref os), (.int (0 : Int32))])) rfl rfl (hb hby own_d1_6))
  refine own_go (T' := T1) (f' := (mkF m 10 #[.val (.ref oa), .val (.int xa), .val (.int xb), .val (.int (0 : Int32))] [])) ?_ (fun _ k => XS.icmpNo X1.here hx rfl (hb hby own_d1_7) rfl (tlt (by decide : (0 : Int32) < (3 : Int32))).2.1 k)
  refine own_go (T' := T1) (f' := (mkF m 11 #[.val (.ref oa), .val (.int xa), .val (.int xb), .val (.int (0 : Int32))] [(.int xa)])) ?_ (fun _ k => XS.iloadN X1.here hx rfl (hb hby own_d1_10) rfl  k)
  refine own_go (T' := T1) (f' := (mkF m 12 #[.val (.ref oa), .val (.int xa), .val (.int xb), .val (.int (0 : Int32))] [(.int (0 : Int32)), (.int xa)])) ?_ (fun _ k => XS.iloadN X1.here hx rfl (hb hby own_d1_11) rfl  k)
  refine own_go (T' := T1) (f' := (mkF m 13 #[.val (.ref oa), .val (.int xa), .val (.int xb), .val (.int (0 : Int32))] [(.int (xa + (0 : Int32)))])) ?_ (fun _ k => XS.iadd X1.here hx rfl (hb hby own_d1_12) rfl k)
  refine own_go (T' := T1) (f' := (mkF m 14 #[.val (.ref oa), .val (.int xa), .val (.int xb), .val (.int (0 : Int32))] [(.int xb), (.int (xa + (0 : Int32)))])) ?_ (fun _ k => XS.iloadN X1.here hx rfl (hb hby own_d1_13) rfl  k)
  by_cases hc14_2 : (xa + (0 : Int32)) = xb
  · refine own_go (T' := T1) (f' := (mkF m 17 #[.val (.ref oa), .val (.int xa), .val (.int xb), .val (.int (0 : Int32))] [])) ?_ (fun _ k => XS.icmpNo X1.here hx rfl (hb hby own_d1_14) rfl (teq hc14_2).2 k)
    refine own_go (T' := T1) (f' := (mkF m 18 #[.val (.ref oa), .val (.int xa), .val (.int xb), .val (.int (0 : Int32))] [(.int (-1 : Int32))])) ?_ (fun _ k => XS.iconst X1.here hx rfl (hb hby own_d1_17) k)
    obtain ⟨fs3, hr3, hrun3, hended3, hW3, hsame3⟩ := X1.leave (v := some (.int (-1 : Int32))) (fun h => by rw [Bd.returns] at h; cases h)
    refine ⟨_, ⟨_, hrun3, hended3, _, _, rfl, ?_, ⟨_, rfl⟩, hW3, hsame3.mono (by decide) (by decide)⟩, fun _ k => (retI X1 hx Bd.returns (hb hby own_d1_18) hr3).trans k⟩
    show own_Q1 Z oa xa xb os LA h0 n0 _ T1.heap _
    rw [e1]
    exact ⟨(congrArg (fun z => some (Value.int z)) (show (-1 : Int32) = (own_f1 xa xb LA) from ((if_pos hc14_2)).symm)), N0, rfl⟩
  · refine own_go (T' := T1) (f' := (mkF m 19 #[.val (.ref oa), .val (.int xa), .val (.int xb), .val (.int (0 : Int32))] [])) ?_ (fun _ k => XS.icmpYes X1.here hx rfl (pc0 := 14) (pc' := 19) rfl (hb hby own_d1_14) rfl (feq hc14_2).2 (by decide) (by decide) k)
    refine own_go (T' := T1) (f' := (mkF m 20 #[.val (.ref oa), .val (.int xa), .val (.int xb), .val (.int (0 : Int32))] [(.ref oa)])) ?_ (fun _ k => XS.aloadN X1.here hx rfl (hb hby own_d1_19) rfl rfl k)
    refine own_go (T' := T1) (f' := (mkF m 21 #[.val (.ref oa), .val (.int xa), .val (.int xb), .val (.int (0 : Int32))] [(.int xa), (.ref oa)])) ?_ (fun _ k => XS.iloadN X1.here hx rfl (hb hby own_d1_20) rfl  k)
    refine own_go (T' := T1) (f' := (mkF m 22 #[.val (.ref oa), .val (.int xa), .val (.int xb), .val (.int (0 : Int32))] [(.int (0 : Int32)), (.int xa), (.ref oa)])) ?_ (fun _ k => XS.iloadN X1.here hx rfl (hb hby own_d1_21) rfl  k)
    refine own_go (T' := T1) (f' := (mkF m 23 #[.val (.ref oa), .val (.int xa), .val (.int xb), .val (.int (0 : Int32))] [(.int (xa + (0 : Int32))), (.ref oa)])) ?_ (fun _ k => XS.iadd X1.here hx rfl (hb hby own_d1_22) rfl k)
    refine own_go (T' := T1) (f' := (mkF m 24 #[.val (.ref oa), .val (.int xa), .val (.int xb), .val (.int (0 : Int32))] [(.int (LA.getD ((xa + (0 : Int32))).toNatClampNeg 0))])) ?_ (own_ldB X1 hx hZ e1 A_oa (j := (xa + (0 : Int32))) (own_pl hp (0 : Int32)) (g := (mkF m 23 #[.val (.ref oa), .val (.int xa), .val (.int xb), .val (.int (0 : Int32))] [(.int (xa + (0 : Int32))), (.ref oa)])) rfl rfl (hb hby own_d1_23))
    obtain ⟨T4, X4, e4, st4⟩ := getS2 X1 hx hZ hown (host := "") (Or.inl (hw _ (List.mem_of_getElem? (i := 6) rfl))) Via.refl e1 S_bom (g := (mkF m 24 #[.val (.ref oa), .val (.int xa), .val (.int xb), .val (.int (0 : Int32))] [(.int (LA.getD ((xa + (0 : Int32))).toNatClampNeg 0))])) rfl (hb hby own_d1_24)
    refine own_go (T' := T4) (f' := (mkF m 27 #[.val (.ref oa), .val (.int xa), .val (.int xb), .val (.int (0 : Int32))] [(.ref os), (.int (LA.getD ((xa + (0 : Int32))).toNatClampNeg 0))])) ?_ (st4)
    refine own_go (T' := T4) (f' := (mkF m 28 #[.val (.ref oa), .val (.int xa), .val (.int xb), .val (.int (0 : Int32))] [(.int (0 : Int32)), (.ref os), (.int (LA.getD ((xa + (0 : Int32))).toNatClampNeg 0))])) ?_ (fun _ k => XS.iloadN X4.here hx rfl (hb hby own_d1_27) rfl  k)
    refine own_go (T' := T4) (f' := (mkF m 29 #[.val (.ref oa), .val (.int xa), .val (.int xb), .val (.int (0 : Int32))] [(.int (-17 : Int32)), (.int (LA.getD ((xa + (0 : Int32))).toNatClampNeg 0))])) ?_ (own_ldB X4 hx hZ e4 A_os (j := (0 : Int32)) ⟨by decide, by decide⟩ (g := (mkF m 28 #[.val (.ref oa), .val (.int xa), .val (.int xb), .val (.int (0 : Int32))] [(.int (0 : Int32)), (.ref os), (.int (LA.getD ((xa + (0 : Int32))).toNatClampNeg 0))])) rfl rfl (hb hby own_d1_28))
    by_cases hc29_5 : (LA.getD ((xa + (0 : Int32))).toNatClampNeg 0) = (-17 : Int32)
    · refine own_go (T' := T4) (f' := (mkF m 34 #[.val (.ref oa), .val (.int xa), .val (.int xb), .val (.int (0 : Int32))] [])) ?_ (fun _ k => XS.icmpYes X4.here hx rfl (pc0 := 29) (pc' := 34) rfl (hb hby own_d1_29) rfl (teq hc29_5).1 (by decide) (by decide) k)
      refine own_go (T' := T4) (f' := (mkF m 37 #[.val (.ref oa), .val (.int xa), .val (.int xb), .val (.int (1 : Int32))] [])) ?_ (fun _ k => XS.iinc X4.here hx rfl (hb hby own_d1_34) rfl (l' := #[.val (.ref oa), .val (.int xa), .val (.int xb), .val (.int (1 : Int32))]) rfl k)
      refine own_go (T' := T4) (f' := (mkF m 2 #[.val (.ref oa), .val (.int xa), .val (.int xb), .val (.int (1 : Int32))] [])) ?_ (fun _ k => XS.goto X4.here hx rfl (pc0 := 37) (pc' := 2) rfl (hb hby own_d1_37) (by decide) (by decide) k)
      refine own_go (T' := T4) (f' := (mkF m 3 #[.val (.ref oa), .val (.int xa), .val (.int xb), .val (.int (1 : Int32))] [(.int (1 : Int32))])) ?_ (fun _ k => XS.iloadN X4.here hx rfl (hb hby own_d1_2) rfl  k)
      obtain ⟨T6, X6, e6, st6⟩ := getS2 X4 hx hZ hown (host := "") (Or.inl (hw _ (List.mem_of_getElem? (i := 6) rfl))) Via.refl e4 S_bom (g := (mkF m 3 #[.val (.ref oa), .val (.int xa), .val (.int xb), .val (.int (1 : Int32))] [(.int (1 : Int32))])) rfl (hb hby own_d1_3)
      refine own_go (T' := T6) (f' := (mkF m 6 #[.val (.ref oa), .val (.int xa), .val (.int xb), .val (.int (1 : Int32))] [(.ref os), (.int (1 : Int32))])) ?_ (st6)
      refine own_go (T' := T6) (f' := (mkF m 7 #[.val (.ref oa), .val (.int xa), .val (.int xb), .val (.int (1 : Int32))] [(.int (3 : Int32)), (.int (1 : Int32))])) ?_ (own_len X6 hx hZ e6 A_os (g := (mkF m 6 #[.val (.ref oa), .val (.int xa), .val (.int xb), .val (.int (1 : Int32))] [(.ref os), (.int (1 : Int32))])) rfl rfl (hb hby own_d1_6))
      refine own_go (T' := T6) (f' := (mkF m 10 #[.val (.ref oa), .val (.int xa), .val (.int xb), .val (.int (1 : Int32))] [])) ?_ (fun _ k => XS.icmpNo X6.here hx rfl (hb hby own_d1_7) rfl (tlt (by decide : (1 : Int32) < (3 : Int32))).2.1 k)
      refine own_go (T' := T6) (f' := (mkF m 11 #[.val (.ref oa), .val (.int xa), .val (.int xb), .val (.int (1 : Int32))] [(.int xa)])) ?_ (fun _ k => XS.iloadN X6.here hx rfl (hb hby own_d1_10) rfl  k)
      refine own_go (T' := T6) (f' := (mkF m 12 #[.val (.ref oa), .val (.int xa), .val (.int xb), .val (.int (1 : Int32))] [(.int (1 : Int32)), (.int xa)])) ?_ (fun _ k => XS.iloadN X6.here hx rfl (hb hby own_d1_11) rfl  k)
      refine own_go (T' := T6) (f' := (mkF m 13 #[.val (.ref oa), .val (.int xa), .val (.int xb), .val (.int (1 : Int32))] [(.int (xa + (1 : Int32)))])) ?_ (fun _ k => XS.iadd X6.here hx rfl (hb hby own_d1_12) rfl k)
      refine own_go (T' := T6) (f' := (mkF m 14 #[.val (.ref oa), .val (.int xa), .val (.int xb), .val (.int (1 : Int32))] [(.int xb), (.int (xa + (1 : Int32)))])) ?_ (fun _ k => XS.iloadN X6.here hx rfl (hb hby own_d1_13) rfl  k)
      by_cases hc14_7 : (xa + (1 : Int32)) = xb
      · refine own_go (T' := T6) (f' := (mkF m 17 #[.val (.ref oa), .val (.int xa), .val (.int xb), .val (.int (1 : Int32))] [])) ?_ (fun _ k => XS.icmpNo X6.here hx rfl (hb hby own_d1_14) rfl (teq hc14_7).2 k)
        refine own_go (T' := T6) (f' := (mkF m 18 #[.val (.ref oa), .val (.int xa), .val (.int xb), .val (.int (1 : Int32))] [(.int (-1 : Int32))])) ?_ (fun _ k => XS.iconst X6.here hx rfl (hb hby own_d1_17) k)
        obtain ⟨fs8, hr8, hrun8, hended8, hW8, hsame8⟩ := X6.leave (v := some (.int (-1 : Int32))) (fun h => by rw [Bd.returns] at h; cases h)
        refine ⟨_, ⟨_, hrun8, hended8, _, _, rfl, ?_, ⟨_, rfl⟩, hW8, hsame8.mono (by decide) (by decide)⟩, fun _ k => (retI X6 hx Bd.returns (hb hby own_d1_18) hr8).trans k⟩
        show own_Q1 Z oa xa xb os LA h0 n0 _ T6.heap _
        rw [e6]
        exact ⟨(congrArg (fun z => some (Value.int z)) (show (-1 : Int32) = (own_f1 xa xb LA) from ((Eq.trans (if_neg hc14_2) (Eq.trans (if_pos hc29_5) (if_pos hc14_7)))).symm)), N0, rfl⟩
      · refine own_go (T' := T6) (f' := (mkF m 19 #[.val (.ref oa), .val (.int xa), .val (.int xb), .val (.int (1 : Int32))] [])) ?_ (fun _ k => XS.icmpYes X6.here hx rfl (pc0 := 14) (pc' := 19) rfl (hb hby own_d1_14) rfl (feq hc14_7).2 (by decide) (by decide) k)
        refine own_go (T' := T6) (f' := (mkF m 20 #[.val (.ref oa), .val (.int xa), .val (.int xb), .val (.int (1 : Int32))] [(.ref oa)])) ?_ (fun _ k => XS.aloadN X6.here hx rfl (hb hby own_d1_19) rfl rfl k)
        refine own_go (T' := T6) (f' := (mkF m 21 #[.val (.ref oa), .val (.int xa), .val (.int xb), .val (.int (1 : Int32))] [(.int xa), (.ref oa)])) ?_ (fun _ k => XS.iloadN X6.here hx rfl (hb hby own_d1_20) rfl  k)
        refine own_go (T' := T6) (f' := (mkF m 22 #[.val (.ref oa), .val (.int xa), .val (.int xb), .val (.int (1 : Int32))] [(.int (1 : Int32)), (.int xa), (.ref oa)])) ?_ (fun _ k => XS.iloadN X6.here hx rfl (hb hby own_d1_21) rfl  k)
        refine own_go (T' := T6) (f' := (mkF m 23 #[.val (.ref oa), .val (.int xa), .val (.int xb), .val (.int (1 : Int32))] [(.int (xa + (1 : Int32))), (.ref oa)])) ?_ (fun _ k => XS.iadd X6.here hx rfl (hb hby own_d1_22) rfl k)
        refine own_go (T' := T6) (f' := (mkF m 24 #[.val (.ref oa), .val (.int xa), .val (.int xb), .val (.int (1 : Int32))] [(.int (LA.getD ((xa + (1 : Int32))).toNatClampNeg 0))])) ?_ (own_ldB X6 hx hZ e6 A_oa (j := (xa + (1 : Int32))) (own_pl hp (1 : Int32)) (g := (mkF m 23 #[.val (.ref oa), .val (.int xa), .val (.int xb), .val (.int (1 : Int32))] [(.int (xa + (1 : Int32))), (.ref oa)])) rfl rfl (hb hby own_d1_23))
        obtain ⟨T9, X9, e9, st9⟩ := getS2 X6 hx hZ hown (host := "") (Or.inl (hw _ (List.mem_of_getElem? (i := 6) rfl))) Via.refl e6 S_bom (g := (mkF m 24 #[.val (.ref oa), .val (.int xa), .val (.int xb), .val (.int (1 : Int32))] [(.int (LA.getD ((xa + (1 : Int32))).toNatClampNeg 0))])) rfl (hb hby own_d1_24)
        refine own_go (T' := T9) (f' := (mkF m 27 #[.val (.ref oa), .val (.int xa), .val (.int xb), .val (.int (1 : Int32))] [(.ref os), (.int (LA.getD ((xa + (1 : Int32))).toNatClampNeg 0))])) ?_ (st9)
        refine own_go (T' := T9) (f' := (mkF m 28 #[.val (.ref oa), .val (.int xa), .val (.int xb), .val (.int (1 : Int32))] [(.int (1 : Int32)), (.ref os), (.int (LA.getD ((xa + (1 : Int32))).toNatClampNeg 0))])) ?_ (fun _ k => XS.iloadN X9.here hx rfl (hb hby own_d1_27) rfl  k)
        refine own_go (T' := T9) (f' := (mkF m 29 #[.val (.ref oa), .val (.int xa), .val (.int xb), .val (.int (1 : Int32))] [(.int (-69 : Int32)), (.int (LA.getD ((xa + (1 : Int32))).toNatClampNeg 0))])) ?_ (own_ldB X9 hx hZ e9 A_os (j := (1 : Int32)) ⟨by decide, by decide⟩ (g := (mkF m 28 #[.val (.ref oa), .val (.int xa), .val (.int xb), .val (.int (1 : Int32))] [(.int (1 : Int32)), (.ref os), (.int (LA.getD ((xa + (1 : Int32))).toNatClampNeg 0))])) rfl rfl (hb hby own_d1_28))
        by_cases hc29_10 : (LA.getD ((xa + (1 : Int32))).toNatClampNeg 0) = (-69 : Int32)
        · refine own_go (T' := T9) (f' := (mkF m 34 #[.val (.ref oa), .val (.int xa), .val (.int xb), .val (.int (1 : Int32))] [])) ?_ (fun _ k => XS.icmpYes X9.here hx rfl (pc0 := 29) (pc' := 34) rfl (hb hby own_d1_29) rfl (teq hc29_10).1 (by decide) (by decide) k)
          refine own_go (T' := T9) (f' := (mkF m 37 #[.val (.ref oa), .val (.int xa), .val (.int xb), .val (.int (2 : Int32))] [])) ?_ (fun _ k => XS.iinc X9.here hx rfl (hb hby own_d1_34) rfl (l' := #[.val (.ref oa), .val (.int xa), .val (.int xb), .val (.int (2 : Int32))]) rfl k)
          refine own_go (T' := T9) (f' := (mkF m 2 #[.val (.ref oa), .val (.int xa), .val (.int xb), .val (.int (2 : Int32))] [])) ?_ (fun _ k => XS.goto X9.here hx rfl (pc0 := 37) (pc' := 2) rfl (hb hby own_d1_37) (by decide) (by decide) k)
          refine own_go (T' := T9) (f' := (mkF m 3 #[.val (.ref oa), .val (.int xa), .val (.int xb), .val (.int (2 : Int32))] [(.int (2 : Int32))])) ?_ (fun _ k => XS.iloadN X9.here hx rfl (hb hby own_d1_2) rfl  k)
          obtain ⟨T11, X11, e11, st11⟩ := getS2 X9 hx hZ hown (host := "") (Or.inl (hw _ (List.mem_of_getElem? (i := 6) rfl))) Via.refl e9 S_bom (g := (mkF m 3 #[.val (.ref oa), .val (.int xa), .val (.int xb), .val (.int (2 : Int32))] [(.int (2 : Int32))])) rfl (hb hby own_d1_3)
          refine own_go (T' := T11) (f' := (mkF m 6 #[.val (.ref oa), .val (.int xa), .val (.int xb), .val (.int (2 : Int32))] [(.ref os), (.int (2 : Int32))])) ?_ (st11)
          refine own_go (T' := T11) (f' := (mkF m 7 #[.val (.ref oa), .val (.int xa), .val (.int xb), .val (.int (2 : Int32))] [(.int (3 : Int32)), (.int (2 : Int32))])) ?_ (own_len X11 hx hZ e11 A_os (g := (mkF m 6 #[.val (.ref oa), .val (.int xa), .val (.int xb), .val (.int (2 : Int32))] [(.ref os), (.int (2 : Int32))])) rfl rfl (hb hby own_d1_6))
          refine own_go (T' := T11) (f' := (mkF m 10 #[.val (.ref oa), .val (.int xa), .val (.int xb), .val (.int (2 : Int32))] [])) ?_ (fun _ k => XS.icmpNo X11.here hx rfl (hb hby own_d1_7) rfl (tlt (by decide : (2 : Int32) < (3 : Int32))).2.1 k)
          refine own_go (T' := T11) (f' := (mkF m 11 #[.val (.ref oa), .val (.int xa), .val (.int xb), .val (.int (2 : Int32))] [(.int xa)])) ?_ (fun _ k => XS.iloadN X11.here hx rfl (hb hby own_d1_10) rfl  k)
          refine own_go (T' := T11) (f' := (mkF m 12 #[.val (.ref oa), .val (.int xa), .val (.int xb), .val (.int (2 : Int32))] [(.int (2 : Int32)), (.int xa)])) ?_ (fun _ k => XS.iloadN X11.here hx rfl (hb hby own_d1_11) rfl  k)
          refine own_go (T' := T11) (f' := (mkF m 13 #[.val (.ref oa), .val (.int xa), .val (.int xb), .val (.int (2 : Int32))] [(.int (xa + (2 : Int32)))])) ?_ (fun _ k => XS.iadd X11.here hx rfl (hb hby own_d1_12) rfl k)
          refine own_go (T' := T11) (f' := (mkF m 14 #[.val (.ref oa), .val (.int xa), .val (.int xb), .val (.int (2 : Int32))] [(.int xb), (.int (xa + (2 : Int32)))])) ?_ (fun _ k => XS.iloadN X11.here hx rfl (hb hby own_d1_13) rfl  k)
          by_cases hc14_12 : (xa + (2 : Int32)) = xb
          · refine own_go (T' := T11) (f' := (mkF m 17 #[.val (.ref oa), .val (.int xa), .val (.int xb), .val (.int (2 : Int32))] [])) ?_ (fun _ k => XS.icmpNo X11.here hx rfl (hb hby own_d1_14) rfl (teq hc14_12).2 k)
            refine own_go (T' := T11) (f' := (mkF m 18 #[.val (.ref oa), .val (.int xa), .val (.int xb), .val (.int (2 : Int32))] [(.int (-1 : Int32))])) ?_ (fun _ k => XS.iconst X11.here hx rfl (hb hby own_d1_17) k)
            obtain ⟨fs13, hr13, hrun13, hended13, hW13, hsame13⟩ := X11.leave (v := some (.int (-1 : Int32))) (fun h => by rw [Bd.returns] at h; cases h)
            refine ⟨_, ⟨_, hrun13, hended13, _, _, rfl, ?_, ⟨_, rfl⟩, hW13, hsame13.mono (by decide) (by decide)⟩, fun _ k => (retI X11 hx Bd.returns (hb hby own_d1_18) hr13).trans k⟩
            show own_Q1 Z oa xa xb os LA h0 n0 _ T11.heap _
            rw [e11]
            exact ⟨(congrArg (fun z => some (Value.int z)) (show (-1 : Int32) = (own_f1 xa xb LA) from ((Eq.trans (if_neg hc14_2) (Eq.trans (if_pos hc29_5) (Eq.trans (if_neg hc14_7) (Eq.trans (if_pos hc29_10) (if_pos hc14_12)))))).symm)), N0, rfl⟩
          · refine own_go (T' := T11) (f' := (mkF m 19 #[.val (.ref oa), .val (.int xa), .val (.int xb), .val (.int (2 : Int32))] [])) ?_ (fun _ k => XS.icmpYes X11.here hx rfl (pc0 := 14) (pc' := 19) rfl (hb hby own_d1_14) rfl (feq hc14_12).2 (by decide) (by decide) k)
            refine own_go (T' := T11) (f' := (mkF m 20 #[.val (.ref oa), .val (.int xa), .val (.int xb), .val (.int (2 : Int32))] [(.ref oa)])) ?_ (fun _ k => XS.aloadN X11.here hx rfl (hb hby own_d1_19) rfl rfl k)
            refine own_go (T' := T11) (f' := (mkF m 21 #[.val (.ref oa), .val (.int xa), .val (.int xb), .val (.int (2 : Int32))] [(.int xa), (.ref oa)])) ?_ (fun _ k => XS.iloadN X11.here hx rfl (hb hby own_d1_20) rfl  k)
            refine own_go (T' := T11) (f' := (mkF m 22 #[.val (.ref oa), .val (.int xa), .val (.int xb), .val (.int (2 : Int32))] [(.int (2 : Int32)), (.int xa), (.ref oa)])) ?_ (fun _ k => XS.iloadN X11.here hx rfl (hb hby own_d1_21) rfl  k)
            refine own_go (T' := T11) (f' := (mkF m 23 #[.val (.ref oa), .val (.int xa), .val (.int xb), .val (.int (2 : Int32))] [(.int (xa + (2 : Int32))), (.ref oa)])) ?_ (fun _ k => XS.iadd X11.here hx rfl (hb hby own_d1_22) rfl k)
            refine own_go (T' := T11) (f' := (mkF m 24 #[.val (.ref oa), .val (.int xa), .val (.int xb), .val (.int (2 : Int32))] [(.int (LA.getD ((xa + (2 : Int32))).toNatClampNeg 0))])) ?_ (own_ldB X11 hx hZ e11 A_oa (j := (xa + (2 : Int32))) (own_pl hp (2 : Int32)) (g := (mkF m 23 #[.val (.ref oa), .val (.int xa), .val (.int xb), .val (.int (2 : Int32))] [(.int (xa + (2 : Int32))), (.ref oa)])) rfl rfl (hb hby own_d1_23))
            obtain ⟨T14, X14, e14, st14⟩ := getS2 X11 hx hZ hown (host := "") (Or.inl (hw _ (List.mem_of_getElem? (i := 6) rfl))) Via.refl e11 S_bom (g := (mkF m 24 #[.val (.ref oa), .val (.int xa), .val (.int xb), .val (.int (2 : Int32))] [(.int (LA.getD ((xa + (2 : Int32))).toNatClampNeg 0))])) rfl (hb hby own_d1_24)
            refine own_go (T' := T14) (f' := (mkF m 27 #[.val (.ref oa), .val (.int xa), .val (.int xb), .val (.int (2 : Int32))] [(.ref os), (.int (LA.getD ((xa + (2 : Int32))).toNatClampNeg 0))])) ?_ (st14)
            refine own_go (T' := T14) (f' := (mkF m 28 #[.val (.ref oa), .val (.int xa), .val (.int xb), .val (.int (2 : Int32))] [(.int (2 : Int32)), (.ref os), (.int (LA.getD ((xa + (2 : Int32))).toNatClampNeg 0))])) ?_ (fun _ k => XS.iloadN X14.here hx rfl (hb hby own_d1_27) rfl  k)
            refine own_go (T' := T14) (f' := (mkF m 29 #[.val (.ref oa), .val (.int xa), .val (.int xb), .val (.int (2 : Int32))] [(.int (-65 : Int32)), (.int (LA.getD ((xa + (2 : Int32))).toNatClampNeg 0))])) ?_ (own_ldB X14 hx hZ e14 A_os (j := (2 : Int32)) ⟨by decide, by decide⟩ (g := (mkF m 28 #[.val (.ref oa), .val (.int xa), .val (.int xb), .val (.int (2 : Int32))] [(.int (2 : Int32)), (.ref os), (.int (LA.getD ((xa + (2 : Int32))).toNatClampNeg 0))])) rfl rfl (hb hby own_d1_28))
            by_cases hc29_15 : (LA.getD ((xa + (2 : Int32))).toNatClampNeg 0) = (-65 : Int32)
            · refine own_go (T' := T14) (f' := (mkF m 34 #[.val (.ref oa), .val (.int xa), .val (.int xb), .val (.int (2 : Int32))] [])) ?_ (fun _ k => XS.icmpYes X14.here hx rfl (pc0 := 29) (pc' := 34) rfl (hb hby own_d1_29) rfl (teq hc29_15).1 (by decide) (by decide) k)
              refine own_go (T' := T14) (f' := (mkF m 37 #[.val (.ref oa), .val (.int xa), .val (.int xb), .val (.int (3 : Int32))] [])) ?_ (fun _ k => XS.iinc X14.here hx rfl (hb hby own_d1_34) rfl (l' := #[.val (.ref oa), .val (.int xa), .val (.int xb), .val (.int (3 : Int32))]) rfl k)
              refine own_go (T' := T14) (f' := (mkF m 2 #[.val (.ref oa), .val (.int xa), .val (.int xb), .val (.int (3 : Int32))] [])) ?_ (fun _ k => XS.goto X14.here hx rfl (pc0 := 37) (pc' := 2) rfl (hb hby own_d1_37) (by decide) (by decide) k)
              refine own_go (T' := T14) (f' := (mkF m 3 #[.val (.ref oa), .val (.int xa), .val (.int xb), .val (.int (3 : Int32))] [(.int (3 : Int32))])) ?_ (fun _ k => XS.iloadN X14.here hx rfl (hb hby own_d1_2) rfl  k)
              obtain ⟨T16, X16, e16, st16⟩ := getS2 X14 hx hZ hown (host := "") (Or.inl (hw _ (List.mem_of_getElem? (i := 6) rfl))) Via.refl e14 S_bom (g := (mkF m 3 #[.val (.ref oa), .val (.int xa), .val (.int xb), .val (.int (3 : Int32))] [(.int (3 : Int32))])) rfl (hb hby own_d1_3)
              refine own_go (T' := T16) (f' := (mkF m 6 #[.val (.ref oa), .val (.int xa), .val (.int xb), .val (.int (3 : Int32))] [(.ref os), (.int (3 : Int32))])) ?_ (st16)
              refine own_go (T' := T16) (f' := (mkF m 7 #[.val (.ref oa), .val (.int xa), .val (.int xb), .val (.int (3 : Int32))] [(.int (3 : Int32)), (.int (3 : Int32))])) ?_ (own_len X16 hx hZ e16 A_os (g := (mkF m 6 #[.val (.ref oa), .val (.int xa), .val (.int xb), .val (.int (3 : Int32))] [(.ref os), (.int (3 : Int32))])) rfl rfl (hb hby own_d1_6))
              refine own_go (T' := T16) (f' := (mkF m 40 #[.val (.ref oa), .val (.int xa), .val (.int xb), .val (.int (3 : Int32))] [])) ?_ (fun _ k => XS.icmpYes X16.here hx rfl (pc0 := 7) (pc' := 40) rfl (hb hby own_d1_7) rfl (flt (by decide : ¬ ((3 : Int32) < (3 : Int32)))).2.1 (by decide) (by decide) k)
              obtain ⟨T17, X17, e17, st17⟩ := getS2 X16 hx hZ hown (host := "") (Or.inl (hw _ (List.mem_of_getElem? (i := 6) rfl))) Via.refl e16 S_bom (g := (mkF m 40 #[.val (.ref oa), .val (.int xa), .val (.int xb), .val (.int (3 : Int32))] [])) rfl (hb hby own_d1_40)
              refine own_go (T' := T17) (f' := (mkF m 43 #[.val (.ref oa), .val (.int xa), .val (.int xb), .val (.int (3 : Int32))] [(.ref os)])) ?_ (st17)
              refine own_go (T' := T17) (f' := (mkF m 44 #[.val (.ref oa), .val (.int xa), .val (.int xb), .val (.int (3 : Int32))] [(.int (3 : Int32))])) ?_ (own_len X17 hx hZ e17 A_os (g := (mkF m 43 #[.val (.ref oa), .val (.int xa), .val (.int xb), .val (.int (3 : Int32))] [(.ref os)])) rfl rfl (hb hby own_d1_43))
              obtain ⟨fs18, hr18, hrun18, hended18, hW18, hsame18⟩ := X17.leave (v := some (.int (3 : Int32))) (fun h => by rw [Bd.returns] at h; cases h)
              refine ⟨_, ⟨_, hrun18, hended18, _, _, rfl, ?_, ⟨_, rfl⟩, hW18, hsame18.mono (by decide) (by decide)⟩, fun _ k => (retI X17 hx Bd.returns (hb hby own_d1_44) hr18).trans k⟩
              show own_Q1 Z oa xa xb os LA h0 n0 _ T17.heap _
              rw [e17]
              exact ⟨(congrArg (fun z => some (Value.int z)) (show (3 : Int32) = (own_f1 xa xb LA) from ((Eq.trans (if_neg hc14_2) (Eq.trans (if_pos hc29_5) (Eq.trans (if_neg hc14_7) (Eq.trans (if_pos hc29_10) (Eq.trans (if_neg hc14_12) (if_pos hc29_15))))))).symm)), N0, rfl⟩
            · refine own_go (T' := T14) (f' := (mkF m 32 #[.val (.ref oa), .val (.int xa), .val (.int xb), .val (.int (2 : Int32))] [])) ?_ (fun _ k => XS.icmpNo X14.here hx rfl (hb hby own_d1_29) rfl (feq hc29_15).1 k)
              refine own_go (T' := T14) (f' := (mkF m 33 #[.val (.ref oa), .val (.int xa), .val (.int xb), .val (.int (2 : Int32))] [(.int (0 : Int32))])) ?_ (fun _ k => XS.iconst X14.here hx rfl (hb hby own_d1_32) k)
              obtain ⟨fs19, hr19, hrun19, hended19, hW19, hsame19⟩ := X14.leave (v := some (.int (0 : Int32))) (fun h => by rw [Bd.returns] at h; cases h)
              refine ⟨_, ⟨_, hrun19, hended19, _, _, rfl, ?_, ⟨_, rfl⟩, hW19, hsame19.mono (by decide) (by decide)⟩, fun _ k => (retI X14 hx Bd.returns (hb hby own_d1_33) hr19).trans k⟩
              show own_Q1 Z oa xa xb os LA h0 n0 _ T14.heap _
              rw [e14]
              exact ⟨(congrArg (fun z => some (Value.int z)) (show (0 : Int32) = (own_f1 xa xb LA) from ((Eq.trans (if_neg hc14_2) (Eq.trans (if_pos hc29_5) (Eq.trans (if_neg hc14_7) (Eq.trans (if_pos hc29_10) (Eq.trans (if_neg hc14_12) (if_neg hc29_15))))))).symm)), N0, rfl⟩
        · refine own_go (T' := T9) (f' := (mkF m 32 #[.val (.ref oa), .val (.int xa), .val (.int xb), .val (.int (1 : Int32))] [])) ?_ (fun _ k => XS.icmpNo X9.here hx rfl (hb hby own_d1_29) rfl (feq hc29_10).1 k)
          refine own_go (T' := T9) (f' := (mkF m 33 #[.val (.ref oa), .val (.int xa), .val (.int xb), .val (.int (1 : Int32))] [(.int (0 : Int32))])) ?_ (fun _ k => XS.iconst X9.here hx rfl (hb hby own_d1_32) k)
          obtain ⟨fs20, hr20, hrun20, hended20, hW20, hsame20⟩ := X9.leave (v := some (.int (0 : Int32))) (fun h => by rw [Bd.returns] at h; cases h)
          refine ⟨_, ⟨_, hrun20, hended20, _, _, rfl, ?_, ⟨_, rfl⟩, hW20, hsame20.mono (by decide) (by decide)⟩, fun _ k => (retI X9 hx Bd.returns (hb hby own_d1_33) hr20).trans k⟩
          show own_Q1 Z oa xa xb os LA h0 n0 _ T9.heap _
          rw [e9]
          exact ⟨(congrArg (fun z => some (Value.int z)) (show (0 : Int32) = (own_f1 xa xb LA) from ((Eq.trans (if_neg hc14_2) (Eq.trans (if_pos hc29_5) (Eq.trans (if_neg hc14_7) (if_neg hc29_10))))).symm)), N0, rfl⟩
    · refine own_go (T' := T4) (f' := (mkF m 32 #[.val (.ref oa), .val (.int xa), .val (.int xb), .val (.int (0 : Int32))] [])) ?_ (fun _ k => XS.icmpNo X4.here hx rfl (hb hby own_d1_29) rfl (feq hc29_5).1 k)
      refine own_go (T' := T4) (f' := (mkF m 33 #[.val (.ref oa), .val (.int xa), .val (.int xb), .val (.int (0 : Int32))] [(.int (0 : Int32))])) ?_ (fun _ k => XS.iconst X4.here hx rfl (hb hby own_d1_32) k)
      obtain ⟨fs21, hr21, hrun21, hended21, hW21, hsame21⟩ := X4.leave (v := some (.int (0 : Int32))) (fun h => by rw [Bd.returns] at h; cases h)
      refine ⟨_, ⟨_, hrun21, hended21, _, _, rfl, ?_, ⟨_, rfl⟩, hW21, hsame21.mono (by decide) (by decide)⟩, fun _ k => (retI X4 hx Bd.returns (hb hby own_d1_33) hr21).trans k⟩
      show own_Q1 Z oa xa xb os LA h0 n0 _ T4.heap _
      rw [e4]
      exact ⟨(congrArg (fun z => some (Value.int z)) (show (0 : Int32) = (own_f1 xa xb LA) from ((Eq.trans (if_neg hc14_2) (if_neg hc29_5))).symm)), N0, rfl⟩
theorem own_pd0 : parseMethodDescriptor "([BII)I" = some ⟨[(.array .byte), .int, .int], some .int⟩ := by decide +kernel
theorem own_pn1 : plainName "com/example/monitorgen/monitorgen/trace/Utf8TextByteOrderMarkLengthPinLaw" = true := by first | (simp [plainName, overriddenIn]; done) | decide +kernel
def own_v0_6 (xc : Int32) : Int32 := (own_irem (xc &&& (2147483647 : Int32)) (3 : Int32))
def own_v0_22 (xc : Int32) (xd : Int32) : Int32 := ((own_v0_6 xc) + (own_irem (xd &&& (2147483647 : Int32)) ((6 : Int32) - (own_v0_6 xc))))
def own_v0_45 (xa : Int64) : Int32 := ((((xa.toUInt64 >>> ((8 : Int32) &&& 0x3f).toInt64.toUInt64).toInt64).toInt32).toInt8.toInt32)
def own_v0_55 (xa : Int64) : Int32 := ((((xa.toUInt64 >>> ((16 : Int32) &&& 0x3f).toInt64.toUInt64).toInt64).toInt32).toInt8.toInt32)
def own_v0_65 (xa : Int64) : Int32 := ((((xa.toUInt64 >>> ((24 : Int32) &&& 0x3f).toInt64.toUInt64).toInt64).toInt32).toInt8.toInt32)
def own_v0_75 (xa : Int64) : Int32 := ((((xa.toUInt64 >>> ((32 : Int32) &&& 0x3f).toInt64.toUInt64).toInt64).toInt32).toInt8.toInt32)
def own_v0_79_l2 (xa : Int64) (xb : Int32) (xc : Int32) : List Int32 := (if (xb &&& (1 : Int32)) = (0 : Int32) then [((xa.toInt32).toInt8.toInt32).toInt8.toInt32, (own_v0_45 xa).toInt8.toInt32, (own_v0_55 xa).toInt8.toInt32, (own_v0_65 xa).toInt8.toInt32, (own_v0_75 xa).toInt8.toInt32] else ([((xa.toInt32).toInt8.toInt32).toInt8.toInt32, (own_v0_45 xa).toInt8.toInt32, (own_v0_55 xa).toInt8.toInt32, (own_v0_65 xa).toInt8.toInt32, (own_v0_75 xa).toInt8.toInt32].set ((own_v0_6 xc)).toNatClampNeg (-17 : Int32).toInt8.toInt32))
def own_v0_92_l2 (xa : Int64) (xb : Int32) (xc : Int32) : List Int32 := (if (xb &&& (2 : Int32)) = (0 : Int32) then (own_v0_79_l2 xa xb xc) else ((own_v0_79_l2 xa xb xc).set (((own_v0_6 xc) + (1 : Int32))).toNatClampNeg (-69 : Int32).toInt8.toInt32))
def own_v0_107_l2 (xa : Int64) (xb : Int32) (xc : Int32) : List Int32 := (if (xb &&& (4 : Int32)) = (0 : Int32) then (own_v0_92_l2 xa xb xc) else ((own_v0_92_l2 xa xb xc).set (((own_v0_6 xc) + (2 : Int32))).toNatClampNeg (-65 : Int32).toInt8.toInt32))
def own_v0_128 (xa : Int64) (xb : Int32) (xc : Int32) (xd : Int32) : Int32 := (own_f1 (own_v0_6 xc) (own_v0_22 xc xd) (own_v0_107_l2 xa xb xc))
def own_v0_144_s0 (xa : Int64) (xb : Int32) (xc : Int32) : Int32 := (if ((own_v0_107_l2 xa xb xc).getD ((own_v0_6 xc)).toNatClampNeg 0) = (-17 : Int32) then (if ((own_v0_107_l2 xa xb xc).getD (((own_v0_6 xc) + (1 : Int32))).toNatClampNeg 0) = (-69 : Int32) then (if ((own_v0_107_l2 xa xb xc).getD (((own_v0_6 xc) + (2 : Int32))).toNatClampNeg 0) = (-65 : Int32) then (3 : Int32) else (2 : Int32)) else (1 : Int32)) else (0 : Int32))
def own_v0_189_s0 (xa : Int64) (xb : Int32) (xc : Int32) (xd : Int32) : Int32 := (if (own_v0_144_s0 xa xb xc) = (3 : Int32) then (if ((own_v0_22 xc xd) - (own_v0_6 xc)) < (3 : Int32) then (if (own_v0_144_s0 xa xb xc) < ((own_v0_22 xc xd) - (own_v0_6 xc)) then (0 : Int32) else (-1 : Int32)) else (3 : Int32)) else (if (own_v0_144_s0 xa xb xc) < ((own_v0_22 xc xd) - (own_v0_6 xc)) then (0 : Int32) else (-1 : Int32)))
def own_v0_220_s0 (xa : Int64) (xb : Int32) (xc : Int32) (xd : Int32) : Int32 := (if (own_v0_128 xa xb xc xd) = (own_v0_189_s0 xa xb xc xd) then (1 : Int32) else (0 : Int32))
def own_f0 (xa : Int64) (xb : Int32) (xc : Int32) (xd : Int32) : Int32 := (own_v0_220_s0 xa xb xc xd)
theorem own_b0_220_s0 (xa : Int64) (xb : Int32) (xc : Int32) (xd : Int32) : (own_v0_220_s0 xa xb xc xd) &&& 1 = (own_v0_220_s0 xa xb xc xd) := (own_ite_bool (by decide) (by decide))
theorem own_bf0 (xa : Int64) (xb : Int32) (xc : Int32) (xd : Int32) : (own_f0 xa xb xc xd) &&& 1 = (own_f0 xa xb xc xd) := (own_b0_220_s0 xa xb xc xd)
theorem own_pl3 (xc : Int32) : ¬ own_v0_6 xc < (0 : Int32) ∧ own_v0_6 xc < (3 : Int32) := by
  have e := own_rem31 xc (3 : Int32) (by decide)
  rw [show (3 : Int32).toInt = 3 from rfl] at e
  rw [own_lt32, own_lt32, show (0 : Int32).toInt = 0 from rfl, show (3 : Int32).toInt = 3 from rfl, show (own_v0_6 xc).toInt = _ from e]; omega
theorem own_nz (xc : Int32) : ((6 : Int32) - (own_v0_6 xc)) ≠ 0 := by
  have p := own_pl3 xc
  rw [own_lt32, own_lt32, show (0 : Int32).toInt = 0 from rfl, show (3 : Int32).toInt = 3 from rfl] at p
  have e6 : (6 : Int32).toInt = 6 := rfl
  intro h
  rw [own_eq32, own_sub_ok (by omega) (by omega), e6, show (0 : Int32).toInt = 0 from rfl] at h; omega
theorem own_ef0 (m : MethodId) (xa : Int64) (xb : Int32) (xc : Int32) (xd : Int32) : entryFrame m #[(.long xa), (.int xb), (.int xc), (.int xd)] maxLocals = mkF m 0 #[.val (.long xa), .second, .val (.int xb), .val (.int xc), .val (.int xd), .unset, .unset, .unset, .unset, .unset, .unset, .unset] [] := by first | (simp [entryFrame, mkF, argsToLocals, Value.category, maxLocals]; done) | rfl
def own_Q0 (Z : State) (xa : Int64) (xb : Int32) (xc : Int32) (xd : Int32) (os : Addr) (h0 : Heap) (n0 : Nat) (v : Option Value) (h : Heap) (L : List Loc) : Prop := v = some (.int (own_f0 xa xb xc xd)) ∧ Fr n0 L
set_option maxRecDepth 65536 in
set_option maxHeartbeats 40000000 in
theorem own_rm0 (l : Launch) (Z : State) (a0 : Array Value) (hw : ∀ d ∈ tables_1, d.before a0 Z = true) (ws : List Jvm.Cond) (xa : Int64) (xb : Int32) (xc : Int32) (xd : Int32) (os : Addr) (h0 : Heap) (n0 : Nat) (Z0 : n0 ≤ h0.size) (S_bom : Sta Z h0 "com/example/monitorgen/monitorgen/trace/Utf8Text" "BYTE_ORDER_MARK" "[B" (.ref os)) (A_os : own_AI Z h0 os .byte (3 : Int32) [(-17 : Int32), (-69 : Int32), (-65 : Int32)]) :
    MetFree l x (head1 (Jvm.Cond.code x code maxLocals ret :: ws) room_1) (fun a U => a = #[(.long xa), (.int xb), (.int xc), (.int xd)] ∧ Z.Warmed39 U.vm ∧ U.heap = h0) (fun _ _ _ _ _ => True) (fun _ U o U' => ∃ v L, o = .returned v ∧ own_Q0 Z xa xb xc xd os h0 n0 v U'.heap L ∧ FrameEnd U o U' L 16 128) := by
  refine MetFree.of_bodySF (plainFor_of_name own_pn1) hisR ?_
  intro p e s m args below meth c s₁ Bd hml0 hP hK
  obtain ⟨rfl, hZ, hh⟩ := hP
  have hx := Bd.exec
  have hby := Bd.bytes
  have hml : c.maxLocals = 12 := hml0
  have hown : s.vm.findClass "com/example/monitorgen/monitorgen/trace/Utf8TextByteOrderMarkLengthPinLaw" = some m.cls := findClass_of_methodNamed Bd.named
  have hnm := (name_of_methodNamed Bd.named Bd.method).1
  have X0 : Stand p l e room_1 s m #[(.long xa), (.int xb), (.int xc), (.int xd)] below meth c s₁ [] 0 0 := Stand.of_body Bd
  have e0 : s₁.heap = h0 := by rw [← hh, Bd.state]; rfl
  have N0 := Fr.nil n0
  refine own_out (Q := fun o U' => ∃ v L, o = .returned v ∧ own_Q0 Z xa xb xc xd os h0 n0 v U'.heap L ∧ FrameEnd s o U' L 16 128) ?_
  refine own_go (T' := s₁) (f' := (mkF m 0 #[.val (.long xa), .second, .val (.int xb), .val (.int xc), .val (.int xd), .unset, .unset, .unset, .unset, .unset, .unset, .unset] [])) ?_ (fun _ k => castTop (own_ef0 m xa xb xc xd) k)
  refine own_go (T' := s₁) (f' := (mkF m 1 #[.val (.long xa), .second, .val (.int xb), .val (.int xc), .val (.int xd), .unset, .unset, .unset, .unset, .unset, .unset, .unset] [(.int xc)])) ?_ (fun _ k => XS.iloadN X0.here hx rfl (hb hby at_0) rfl  k)
  refine own_go (T' := s₁) (f' := (mkF m 3 #[.val (.long xa), .second, .val (.int xb), .val (.int xc), .val (.int xd), .unset, .unset, .unset, .unset, .unset, .unset, .unset] [(.int (2147483647 : Int32)), (.int xc)])) ?_ (X0.ldcInt hx hown (mvT hZ (hw _ (List.mem_of_getElem? (i := 0) rfl))) (g := (mkF m 1 #[.val (.long xa), .second, .val (.int xb), .val (.int xc), .val (.int xd), .unset, .unset, .unset, .unset, .unset, .unset, .unset] [(.int xc)])) rfl (hb hby at_1))
  refine own_go (T' := s₁) (f' := (mkF m 4 #[.val (.long xa), .second, .val (.int xb), .val (.int xc), .val (.int xd), .unset, .unset, .unset, .unset, .unset, .unset, .unset] [(.int (xc &&& (2147483647 : Int32)))])) ?_ (fun _ k => XS.iand X0.here hx rfl (hb hby at_3) rfl k)
  refine own_go (T' := s₁) (f' := (mkF m 5 #[.val (.long xa), .second, .val (.int xb), .val (.int xc), .val (.int xd), .unset, .unset, .unset, .unset, .unset, .unset, .unset] [(.int (3 : Int32)), (.int (xc &&& (2147483647 : Int32)))])) ?_ (fun _ k => XS.iconst X0.here hx rfl (hb hby at_4) k)
  refine own_go (T' := s₁) (f' := (mkF m 6 #[.val (.long xa), .second, .val (.int xb), .val (.int xc), .val (.int xd), .unset, .unset, .unset, .unset, .unset, .unset, .unset] [(.int (own_irem (xc &&& (2147483647 : Int32)) (3 : Int32)))])) ?_ (fun _ k => XS.irem X0.here hx rfl (hb hby at_5) rfl (by decide) k)
  refine own_go (T' := s₁) (f' := (mkF m 8 #[.val (.long xa), .second, .val (.int xb), .val (.int xc), .val (.int xd), .val (.int (own_v0_6 xc)), .unset, .unset, .unset, .unset, .unset, .unset] [])) ?_ (fun _ k => XS.istore X0.here hx rfl (hb hby at_6) rfl (l' := #[.val (.long xa), .second, .val (.int xb), .val (.int xc), .val (.int xd), .val (.int (own_v0_6 xc)), .unset, .unset, .unset, .unset, .unset, .unset]) rfl k)
  refine own_go (T' := s₁) (f' := (mkF m 10 #[.val (.long xa), .second, .val (.int xb), .val (.int xc), .val (.int xd), .val (.int (own_v0_6 xc)), .unset, .unset, .unset, .unset, .unset, .unset] [(.int (own_v0_6 xc))])) ?_ (fun _ k => XS.iload X0.here hx rfl (hb hby at_8) rfl  k)
  refine own_go (T' := s₁) (f' := (mkF m 12 #[.val (.long xa), .second, .val (.int xb), .val (.int xc), .val (.int xd), .val (.int (own_v0_6 xc)), .unset, .unset, .unset, .unset, .unset, .unset] [(.int xd), (.int (own_v0_6 xc))])) ?_ (fun _ k => XS.iload X0.here hx rfl (hb hby at_10) rfl  k)
  refine own_go (T' := s₁) (f' := (mkF m 14 #[.val (.long xa), .second, .val (.int xb), .val (.int xc), .val (.int xd), .val (.int (own_v0_6 xc)), .unset, .unset, .unset, .unset, .unset, .unset] [(.int (2147483647 : Int32)), (.int xd), (.int (own_v0_6 xc))])) ?_ (X0.ldcInt hx hown (mvT hZ (hw _ (List.mem_of_getElem? (i := 0) rfl))) (g := (mkF m 12 #[.val (.long xa), .second, .val (.int xb), .val (.int xc), .val (.int xd), .val (.int (own_v0_6 xc)), .unset, .unset, .unset, .unset, .unset, .unset] [(.int xd), (.int (own_v0_6 xc))])) rfl (hb hby at_12))
  refine own_go (T' := s₁) (f' := (mkF m 15 #[.val (.long xa), .second, .val (.int xb), .val (.int xc), .val (.int xd), .val (.int (own_v0_6 xc)), .unset, .unset, .unset, .unset, .unset, .unset] [(.int (xd &&& (2147483647 : Int32))), (.int (own_v0_6 xc))])) ?_ (fun _ k => XS.iand X0.here hx rfl (hb hby at_14) rfl k)
  refine own_go (T' := s₁) (f' := (mkF m 17 #[.val (.long xa), .second, .val (.int xb), .val (.int xc), .val (.int xd), .val (.int (own_v0_6 xc)), .unset, .unset, .unset, .unset, .unset, .unset] [(.int (6 : Int32)), (.int (xd &&& (2147483647 : Int32))), (.int (own_v0_6 xc))])) ?_ (fun _ k => XS.bipush X0.here hx rfl (hb hby at_15) k)
  refine own_go (T' := s₁) (f' := (mkF m 19 #[.val (.long xa), .second, .val (.int xb), .val (.int xc), .val (.int xd), .val (.int (own_v0_6 xc)), .unset, .unset, .unset, .unset, .unset, .unset] [(.int (own_v0_6 xc)), (.int (6 : Int32)), (.int (xd &&& (2147483647 : Int32))), (.int (own_v0_6 xc))])) ?_ (fun _ k => XS.iload X0.here hx rfl (hb hby at_17) rfl  k)
  refine own_go (T' := s₁) (f' := (mkF m 20 #[.val (.long xa), .second, .val (.int xb), .val (.int xc), .val (.int xd), .val (.int (own_v0_6 xc)), .unset, .unset, .unset, .unset, .unset, .unset] [(.int ((6 : Int32) - (own_v0_6 xc))), (.int (xd &&& (2147483647 : Int32))), (.int (own_v0_6 xc))])) ?_ (fun _ k => XS.isub X0.here hx rfl (hb hby at_19) rfl k)
  refine own_go (T' := s₁) (f' := (mkF m 21 #[.val (.long xa), .second, .val (.int xb), .val (.int xc), .val (.int xd), .val (.int (own_v0_6 xc)), .unset, .unset, .unset, .unset, .unset, .unset] [(.int (own_irem (xd &&& (2147483647 : Int32)) ((6 : Int32) - (own_v0_6 xc)))), (.int (own_v0_6 xc))])) ?_ (fun _ k => XS.irem X0.here hx rfl (hb hby at_20) rfl (own_nz xc) k)
  refine own_go (T' := s₁) (f' := (mkF m 22 #[.val (.long xa), .second, .val (.int xb), .val (.int xc), .val (.int xd), .val (.int (own_v0_6 xc)), .unset, .unset, .unset, .unset, .unset, .unset] [(.int ((own_v0_6 xc) + (own_irem (xd &&& (2147483647 : Int32)) ((6 : Int32) - (own_v0_6 xc)))))])) ?_ (fun _ k => XS.iadd X0.here hx rfl (hb hby at_21) rfl k)
  refine own_go (T' := s₁) (f' := (mkF m 24 #[.val (.long xa), .second, .val (.int xb), .val (.int xc), .val (.int xd), .val (.int (own_v0_6 xc)), .val (.int (own_v0_22 xc xd)), .unset, .unset, .unset, .unset, .unset] [])) ?_ (fun _ k => XS.istore X0.here hx rfl (hb hby at_22) rfl (l' := #[.val (.long xa), .second, .val (.int xb), .val (.int xc), .val (.int xd), .val (.int (own_v0_6 xc)), .val (.int (own_v0_22 xc xd)), .unset, .unset, .unset, .unset, .unset]) rfl k)
  refine own_go (T' := s₁) (f' := (mkF m 25 #[.val (.long xa), .second, .val (.int xb), .val (.int xc), .val (.int xd), .val (.int (own_v0_6 xc)), .val (.int (own_v0_22 xc xd)), .unset, .unset, .unset, .unset, .unset] [(.int (5 : Int32))])) ?_ (fun _ k => XS.iconst X0.here hx rfl (hb hby at_24) k)
  obtain ⟨T1, h1, k1, X1, e1, E1, A1, st1⟩ := newP X0 hx hZ (hw _ (List.mem_of_getElem? (i := 1) rfl)) e0 (g := (mkF m 25 #[.val (.long xa), .second, .val (.int xb), .val (.int xc), .val (.int xd), .val (.int (own_v0_6 xc)), .val (.int (own_v0_22 xc xd)), .unset, .unset, .unset, .unset, .unset] [(.int (5 : Int32))])) rfl (hb hby at_25) rfl (by decide) (cap := 5) (by decide) (by decide) (by decide) (by decide)
  obtain ⟨b1, g1⟩ : ∃ z, z = h0.size := ⟨_, rfl⟩
  rw [← g1] at A1 st1
  have KK1 : Keep h0 h1 [] := (Keep.refl h0 []).ext E1
  have g_b1 : n0 ≤ b1 := Nat.le_trans Z0 (Nat.le_of_eq g1.symm)
  have sz_b1 : h0.size ≤ b1 := Nat.le_trans (Keep.refl h0 []).1 (Nat.le_of_eq g1.symm)
  have ZZ1 : n0 ≤ h1.size := Nat.le_trans Z0 E1.1
  have ne_os_b1 : os ≠ b1 := Nat.ne_of_lt (Nat.lt_of_lt_of_le A_os.lt (Nat.le_of_eq g1.symm))
  have fa2 := Sta.ext E1 S_bom
  have fa3 := A_os.ext E1
  have AA1 : own_AI Z h1 b1 .byte (5 : Int32) [(0 : Int32), (0 : Int32), (0 : Int32), (0 : Int32), (0 : Int32)] := own_AI.new A1 (by decide) rfl
  refine own_go (T' := T1) (f' := (mkF m 27 #[.val (.long xa), .second, .val (.int xb), .val (.int xc), .val (.int xd), .val (.int (own_v0_6 xc)), .val (.int (own_v0_22 xc xd)), .unset, .unset, .unset, .unset, .unset] [(.ref b1)])) ?_ (st1)
  refine own_go (T' := T1) (f' := (mkF m 29 #[.val (.long xa), .second, .val (.int xb), .val (.int xc), .val (.int xd), .val (.int (own_v0_6 xc)), .val (.int (own_v0_22 xc xd)), .val (.ref b1), .unset, .unset, .unset, .unset] [])) ?_ (fun _ k => XS.astore X1.here hx rfl (hb hby at_27) rfl rfl (l' := #[.val (.long xa), .second, .val (.int xb), .val (.int xc), .val (.int xd), .val (.int (own_v0_6 xc)), .val (.int (own_v0_22 xc xd)), .val (.ref b1), .unset, .unset, .unset, .unset]) rfl k)
  refine own_go (T' := T1) (f' := (mkF m 31 #[.val (.long xa), .second, .val (.int xb), .val (.int xc), .val (.int xd), .val (.int (own_v0_6 xc)), .val (.int (own_v0_22 xc xd)), .val (.ref b1), .unset, .unset, .unset, .unset] [(.ref b1)])) ?_ (fun _ k => XS.aload X1.here hx rfl (hb hby at_29) rfl rfl k)
  refine own_go (T' := T1) (f' := (mkF m 32 #[.val (.long xa), .second, .val (.int xb), .val (.int xc), .val (.int xd), .val (.int (own_v0_6 xc)), .val (.int (own_v0_22 xc xd)), .val (.ref b1), .unset, .unset, .unset, .unset] [(.int (0 : Int32)), (.ref b1)])) ?_ (fun _ k => XS.iconst X1.here hx rfl (hb hby at_31) k)
  refine own_go (T' := T1) (f' := (mkF m 33 #[.val (.long xa), .second, .val (.int xb), .val (.int xc), .val (.int xd), .val (.int (own_v0_6 xc)), .val (.int (own_v0_22 xc xd)), .val (.ref b1), .unset, .unset, .unset, .unset] [(.long xa), (.int (0 : Int32)), (.ref b1)])) ?_ (fun _ k => XS.lloadN X1.here hx rfl (hb hby at_32) rfl  k)
  refine own_go (T' := T1) (f' := (mkF m 34 #[.val (.long xa), .second, .val (.int xb), .val (.int xc), .val (.int xd), .val (.int (own_v0_6 xc)), .val (.int (own_v0_22 xc xd)), .val (.ref b1), .unset, .unset, .unset, .unset] [(.int (xa.toInt32)), (.int (0 : Int32)), (.ref b1)])) ?_ (fun _ k => XS.l2i X1.here hx rfl (hb hby at_33) rfl k)
  refine own_go (T' := T1) (f' := (mkF m 35 #[.val (.long xa), .second, .val (.int xb), .val (.int xc), .val (.int xd), .val (.int (own_v0_6 xc)), .val (.int (own_v0_22 xc xd)), .val (.ref b1), .unset, .unset, .unset, .unset] [(.int ((xa.toInt32).toInt8.toInt32)), (.int (0 : Int32)), (.ref b1)])) ?_ (fun _ k => XS.i2b X1.here hx rfl (hb hby at_34) rfl k)
  obtain ⟨T4, h4, X4, e4, W4, F4, st4⟩ := own_stB X1 hx hZ e1 AA1 (j := (0 : Int32)) ⟨by decide, by decide⟩ (g := (mkF m 35 #[.val (.long xa), .second, .val (.int xb), .val (.int xc), .val (.int xd), .val (.int (own_v0_6 xc)), .val (.int (own_v0_22 xc xd)), .val (.ref b1), .unset, .unset, .unset, .unset] [(.int ((xa.toInt32).toInt8.toInt32)), (.int (0 : Int32)), (.ref b1)])) rfl rfl (hb hby at_35)
  have fa5 := Sta.wr W4 fa2
  have fa6 := fa3.other W4 ne_os_b1
  have Fw4 : own_AI Z h4 b1 .byte (5 : Int32) [((xa.toInt32).toInt8.toInt32).toInt8.toInt32, (0 : Int32), (0 : Int32), (0 : Int32), (0 : Int32)] := F4
  have N4 := Fr.snoc X4 N0 g_b1
  have KK4 : Keep h0 h4 [] := KK1.wr W4 (Or.inr sz_b1)
  have ZZ4 : n0 ≤ h4.size := Nat.le_trans ZZ1 (Keep.of_wr W4).1
  refine own_go (T' := T4) (f' := (mkF m 36 #[.val (.long xa), .second, .val (.int xb), .val (.int xc), .val (.int xd), .val (.int (own_v0_6 xc)), .val (.int (own_v0_22 xc xd)), .val (.ref b1), .unset, .unset, .unset, .unset] [])) ?_ (st4)
  refine own_go (T' := T4) (f' := (mkF m 38 #[.val (.long xa), .second, .val (.int xb), .val (.int xc), .val (.int xd), .val (.int (own_v0_6 xc)), .val (.int (own_v0_22 xc xd)), .val (.ref b1), .unset, .unset, .unset, .unset] [(.ref b1)])) ?_ (fun _ k => XS.aload X4.here hx rfl (hb hby at_36) rfl rfl k)
  refine own_go (T' := T4) (f' := (mkF m 39 #[.val (.long xa), .second, .val (.int xb), .val (.int xc), .val (.int xd), .val (.int (own_v0_6 xc)), .val (.int (own_v0_22 xc xd)), .val (.ref b1), .unset, .unset, .unset, .unset] [(.int (1 : Int32)), (.ref b1)])) ?_ (fun _ k => XS.iconst X4.here hx rfl (hb hby at_38) k)
  refine own_go (T' := T4) (f' := (mkF m 40 #[.val (.long xa), .second, .val (.int xb), .val (.int xc), .val (.int xd), .val (.int (own_v0_6 xc)), .val (.int (own_v0_22 xc xd)), .val (.ref b1), .unset, .unset, .unset, .unset] [(.long xa), (.int (1 : Int32)), (.ref b1)])) ?_ (fun _ k => XS.lloadN X4.here hx rfl (hb hby at_39) rfl  k)
  refine own_go (T' := T4) (f' := (mkF m 42 #[.val (.long xa), .second, .val (.int xb), .val (.int xc), .val (.int xd), .val (.int (own_v0_6 xc)), .val (.int (own_v0_22 xc xd)), .val (.ref b1), .unset, .unset, .unset, .unset] [(.int (8 : Int32)), (.long xa), (.int (1 : Int32)), (.ref b1)])) ?_ (fun _ k => XS.bipush X4.here hx rfl (hb hby at_40) k)
  refine own_go (T' := T4) (f' := (mkF m 43 #[.val (.long xa), .second, .val (.int xb), .val (.int xc), .val (.int xd), .val (.int (own_v0_6 xc)), .val (.int (own_v0_22 xc xd)), .val (.ref b1), .unset, .unset, .unset, .unset] [(.long ((xa.toUInt64 >>> ((8 : Int32) &&& 0x3f).toInt64.toUInt64).toInt64)), (.int (1 : Int32)), (.ref b1)])) ?_ (fun _ k => XS.lushr X4.here hx rfl (hb hby at_42) rfl k)
  refine own_go (T' := T4) (f' := (mkF m 44 #[.val (.long xa), .second, .val (.int xb), .val (.int xc), .val (.int xd), .val (.int (own_v0_6 xc)), .val (.int (own_v0_22 xc xd)), .val (.ref b1), .unset, .unset, .unset, .unset] [(.int (((xa.toUInt64 >>> ((8 : Int32) &&& 0x3f).toInt64.toUInt64).toInt64).toInt32)), (.int (1 : Int32)), (.ref b1)])) ?_ (fun _ k => XS.l2i X4.here hx rfl (hb hby at_43) rfl k)
  refine own_go (T' := T4) (f' := (mkF m 45 #[.val (.long xa), .second, .val (.int xb), .val (.int xc), .val (.int xd), .val (.int (own_v0_6 xc)), .val (.int (own_v0_22 xc xd)), .val (.ref b1), .unset, .unset, .unset, .unset] [(.int ((((xa.toUInt64 >>> ((8 : Int32) &&& 0x3f).toInt64.toUInt64).toInt64).toInt32).toInt8.toInt32)), (.int (1 : Int32)), (.ref b1)])) ?_ (fun _ k => XS.i2b X4.here hx rfl (hb hby at_44) rfl k)
  obtain ⟨T8, h8, X8, e8, W8, F8, st8⟩ := own_stB X4 hx hZ e4 Fw4 (j := (1 : Int32)) ⟨by decide, by decide⟩ (g := (mkF m 45 #[.val (.long xa), .second, .val (.int xb), .val (.int xc), .val (.int xd), .val (.int (own_v0_6 xc)), .val (.int (own_v0_22 xc xd)), .val (.ref b1), .unset, .unset, .unset, .unset] [(.int ((((xa.toUInt64 >>> ((8 : Int32) &&& 0x3f).toInt64.toUInt64).toInt64).toInt32).toInt8.toInt32)), (.int (1 : Int32)), (.ref b1)])) rfl rfl (hb hby at_45)
  have fa9 := Sta.wr W8 fa5
  have fa10 := fa6.other W8 ne_os_b1
  have Fw8 : own_AI Z h8 b1 .byte (5 : Int32) [((xa.toInt32).toInt8.toInt32).toInt8.toInt32, (own_v0_45 xa).toInt8.toInt32, (0 : Int32), (0 : Int32), (0 : Int32)] := F8
  have N8 := Fr.snoc X8 N4 g_b1
  have KK8 : Keep h0 h8 [] := KK4.wr W8 (Or.inr sz_b1)
  have ZZ8 : n0 ≤ h8.size := Nat.le_trans ZZ4 (Keep.of_wr W8).1
  refine own_go (T' := T8) (f' := (mkF m 46 #[.val (.long xa), .second, .val (.int xb), .val (.int xc), .val (.int xd), .val (.int (own_v0_6 xc)), .val (.int (own_v0_22 xc xd)), .val (.ref b1), .unset, .unset, .unset, .unset] [])) ?_ (st8)
  refine own_go (T' := T8) (f' := (mkF m 48 #[.val (.long xa), .second, .val (.int xb), .val (.int xc), .val (.int xd), .val (.int (own_v0_6 xc)), .val (.int (own_v0_22 xc xd)), .val (.ref b1), .unset, .unset, .unset, .unset] [(.ref b1)])) ?_ (fun _ k => XS.aload X8.here hx rfl (hb hby at_46) rfl rfl k)
  refine own_go (T' := T8) (f' := (mkF m 49 #[.val (.long xa), .second, .val (.int xb), .val (.int xc), .val (.int xd), .val (.int (own_v0_6 xc)), .val (.int (own_v0_22 xc xd)), .val (.ref b1), .unset, .unset, .unset, .unset] [(.int (2 : Int32)), (.ref b1)])) ?_ (fun _ k => XS.iconst X8.here hx rfl (hb hby at_48) k)
  refine own_go (T' := T8) (f' := (mkF m 50 #[.val (.long xa), .second, .val (.int xb), .val (.int xc), .val (.int xd), .val (.int (own_v0_6 xc)), .val (.int (own_v0_22 xc xd)), .val (.ref b1), .unset, .unset, .unset, .unset] [(.long xa), (.int (2 : Int32)), (.ref b1)])) ?_ (fun _ k => XS.lloadN X8.here hx rfl (hb hby at_49) rfl  k)
  refine own_go (T' := T8) (f' := (mkF m 52 #[.val (.long xa), .second, .val (.int xb), .val (.int xc), .val (.int xd), .val (.int (own_v0_6 xc)), .val (.int (own_v0_22 xc xd)), .val (.ref b1), .unset, .unset, .unset, .unset] [(.int (16 : Int32)), (.long xa), (.int (2 : Int32)), (.ref b1)])) ?_ (fun _ k => XS.bipush X8.here hx rfl (hb hby at_50) k)
  refine own_go (T' := T8) (f' := (mkF m 53 #[.val (.long xa), .second, .val (.int xb), .val (.int xc), .val (.int xd), .val (.int (own_v0_6 xc)), .val (.int (own_v0_22 xc xd)), .val (.ref b1), .unset, .unset, .unset, .unset] [(.long ((xa.toUInt64 >>> ((16 : Int32) &&& 0x3f).toInt64.toUInt64).toInt64)), (.int (2 : Int32)), (.ref b1)])) ?_ (fun _ k => XS.lushr X8.here hx rfl (hb hby at_52) rfl k)
  refine own_go (T' := T8) (f' := (mkF m 54 #[.val (.long xa), .second, .val (.int xb), .val (.int xc), .val (.int xd), .val (.int (own_v0_6 xc)), .val (.int (own_v0_22 xc xd)), .val (.ref b1), .unset, .unset, .unset, .unset] [(.int (((xa.toUInt64 >>> ((16 : Int32) &&& 0x3f).toInt64.toUInt64).toInt64).toInt32)), (.int (2 : Int32)), (.ref b1)])) ?_ (fun _ k => XS.l2i X8.here hx rfl (hb hby at_53) rfl k)
  refine own_go (T' := T8) (f' := (mkF m 55 #[.val (.long xa), .second, .val (.int xb), .val (.int xc), .val (.int xd), .val (.int (own_v0_6 xc)), .val (.int (own_v0_22 xc xd)), .val (.ref b1), .unset, .unset, .unset, .unset] [(.int ((((xa.toUInt64 >>> ((16 : Int32) &&& 0x3f).toInt64.toUInt64).toInt64).toInt32).toInt8.toInt32)), (.int (2 : Int32)), (.ref b1)])) ?_ (fun _ k => XS.i2b X8.here hx rfl (hb hby at_54) rfl k)
  obtain ⟨T12, h12, X12, e12, W12, F12, st12⟩ := own_stB X8 hx hZ e8 Fw8 (j := (2 : Int32)) ⟨by decide, by decide⟩ (g := (mkF m 55 #[.val (.long xa), .second, .val (.int xb), .val (.int xc), .val (.int xd), .val (.int (own_v0_6 xc)), .val (.int (own_v0_22 xc xd)), .val (.ref b1), .unset, .unset, .unset, .unset] [(.int ((((xa.toUInt64 >>> ((16 : Int32) &&& 0x3f).toInt64.toUInt64).toInt64).toInt32).toInt8.toInt32)), (.int (2 : Int32)), (.ref b1)])) rfl rfl (hb hby at_55)
  have fa13 := Sta.wr W12 fa9
  have fa14 := fa10.other W12 ne_os_b1
  have Fw12 : own_AI Z h12 b1 .byte (5 : Int32) [((xa.toInt32).toInt8.toInt32).toInt8.toInt32, (own_v0_45 xa).toInt8.toInt32, (own_v0_55 xa).toInt8.toInt32, (0 : Int32), (0 : Int32)] := F12
  have N12 := Fr.snoc X12 N8 g_b1
  have KK12 : Keep h0 h12 [] := KK8.wr W12 (Or.inr sz_b1)
  have ZZ12 : n0 ≤ h12.size := Nat.le_trans ZZ8 (Keep.of_wr W12).1
  refine own_go (T' := T12) (f' := (mkF m 56 #[.val (.long xa), .second, .val (.int xb), .val (.int xc), .val (.int xd), .val (.int (own_v0_6 xc)), .val (.int (own_v0_22 xc xd)), .val (.ref b1), .unset, .unset, .unset, .unset] [])) ?_ (st12)
  refine own_go (T' := T12) (f' := (mkF m 58 #[.val (.long xa), .second, .val (.int xb), .val (.int xc), .val (.int xd), .val (.int (own_v0_6 xc)), .val (.int (own_v0_22 xc xd)), .val (.ref b1), .unset, .unset, .unset, .unset] [(.ref b1)])) ?_ (fun _ k => XS.aload X12.here hx rfl (hb hby at_56) rfl rfl k)
  refine own_go (T' := T12) (f' := (mkF m 59 #[.val (.long xa), .second, .val (.int xb), .val (.int xc), .val (.int xd), .val (.int (own_v0_6 xc)), .val (.int (own_v0_22 xc xd)), .val (.ref b1), .unset, .unset, .unset, .unset] [(.int (3 : Int32)), (.ref b1)])) ?_ (fun _ k => XS.iconst X12.here hx rfl (hb hby at_58) k)
  refine own_go (T' := T12) (f' := (mkF m 60 #[.val (.long xa), .second, .val (.int xb), .val (.int xc), .val (.int xd), .val (.int (own_v0_6 xc)), .val (.int (own_v0_22 xc xd)), .val (.ref b1), .unset, .unset, .unset, .unset] [(.long xa), (.int (3 : Int32)), (.ref b1)])) ?_ (fun _ k => XS.lloadN X12.here hx rfl (hb hby at_59) rfl  k)
  refine own_go (T' := T12) (f' := (mkF m 62 #[.val (.long xa), .second, .val (.int xb), .val (.int xc), .val (.int xd), .val (.int (own_v0_6 xc)), .val (.int (own_v0_22 xc xd)), .val (.ref b1), .unset, .unset, .unset, .unset] [(.int (24 : Int32)), (.long xa), (.int (3 : Int32)), (.ref b1)])) ?_ (fun _ k => XS.bipush X12.here hx rfl (hb hby at_60) k)
  refine own_go (T' := T12) (f' := (mkF m 63 #[.val (.long xa), .second, .val (.int xb), .val (.int xc), .val (.int xd), .val (.int (own_v0_6 xc)), .val (.int (own_v0_22 xc xd)), .val (.ref b1), .unset, .unset, .unset, .unset] [(.long ((xa.toUInt64 >>> ((24 : Int32) &&& 0x3f).toInt64.toUInt64).toInt64)), (.int (3 : Int32)), (.ref b1)])) ?_ (fun _ k => XS.lushr X12.here hx rfl (hb hby at_62) rfl k)
  refine own_go (T' := T12) (f' := (mkF m 64 #[.val (.long xa), .second, .val (.int xb), .val (.int xc), .val (.int xd), .val (.int (own_v0_6 xc)), .val (.int (own_v0_22 xc xd)), .val (.ref b1), .unset, .unset, .unset, .unset] [(.int (((xa.toUInt64 >>> ((24 : Int32) &&& 0x3f).toInt64.toUInt64).toInt64).toInt32)), (.int (3 : Int32)), (.ref b1)])) ?_ (fun _ k => XS.l2i X12.here hx rfl (hb hby at_63) rfl k)
  refine own_go (T' := T12) (f' := (mkF m 65 #[.val (.long xa), .second, .val (.int xb), .val (.int xc), .val (.int xd), .val (.int (own_v0_6 xc)), .val (.int (own_v0_22 xc xd)), .val (.ref b1), .unset, .unset, .unset, .unset] [(.int ((((xa.toUInt64 >>> ((24 : Int32) &&& 0x3f).toInt64.toUInt64).toInt64).toInt32).toInt8.toInt32)), (.int (3 : Int32)), (.ref b1)])) ?_ (fun _ k => XS.i2b X12.here hx rfl (hb hby at_64) rfl k)
  obtain ⟨T16, h16, X16, e16, W16, F16, st16⟩ := own_stB X12 hx hZ e12 Fw12 (j := (3 : Int32)) ⟨by decide, by decide⟩ (g := (mkF m 65 #[.val (.long xa), .second, .val (.int xb), .val (.int xc), .val (.int xd), .val (.int (own_v0_6 xc)), .val (.int (own_v0_22 xc xd)), .val (.ref b1), .unset, .unset, .unset, .unset] [(.int ((((xa.toUInt64 >>> ((24 : Int32) &&& 0x3f).toInt64.toUInt64).toInt64).toInt32).toInt8.toInt32)), (.int (3 : Int32)), (.ref b1)])) rfl rfl (hb hby at_65)
  have fa17 := Sta.wr W16 fa13
  have fa18 := fa14.other W16 ne_os_b1
  have Fw16 : own_AI Z h16 b1 .byte (5 : Int32) [((xa.toInt32).toInt8.toInt32).toInt8.toInt32, (own_v0_45 xa).toInt8.toInt32, (own_v0_55 xa).toInt8.toInt32, (own_v0_65 xa).toInt8.toInt32, (0 : Int32)] := F16
  have N16 := Fr.snoc X16 N12 g_b1
  have KK16 : Keep h0 h16 [] := KK12.wr W16 (Or.inr sz_b1)
  have ZZ16 : n0 ≤ h16.size := Nat.le_trans ZZ12 (Keep.of_wr W16).1
  refine own_go (T' := T16) (f' := (mkF m 66 #[.val (.long xa), .second, .val (.int xb), .val (.int xc), .val (.int xd), .val (.int (own_v0_6 xc)), .val (.int (own_v0_22 xc xd)), .val (.ref b1), .unset, .unset, .unset, .unset] [])) ?_ (st16)
  refine own_go (T' := T16) (f' := (mkF m 68 #[.val (.long xa), .second, .val (.int xb), .val (.int xc), .val (.int xd), .val (.int (own_v0_6 xc)), .val (.int (own_v0_22 xc xd)), .val (.ref b1), .unset, .unset, .unset, .unset] [(.ref b1)])) ?_ (fun _ k => XS.aload X16.here hx rfl (hb hby at_66) rfl rfl k)
  refine own_go (T' := T16) (f' := (mkF m 69 #[.val (.long xa), .second, .val (.int xb), .val (.int xc), .val (.int xd), .val (.int (own_v0_6 xc)), .val (.int (own_v0_22 xc xd)), .val (.ref b1), .unset, .unset, .unset, .unset] [(.int (4 : Int32)), (.ref b1)])) ?_ (fun _ k => XS.iconst X16.here hx rfl (hb hby at_68) k)
  refine own_go (T' := T16) (f' := (mkF m 70 #[.val (.long xa), .second, .val (.int xb), .val (.int xc), .val (.int xd), .val (.int (own_v0_6 xc)), .val (.int (own_v0_22 xc xd)), .val (.ref b1), .unset, .unset, .unset, .unset] [(.long xa), (.int (4 : Int32)), (.ref b1)])) ?_ (fun _ k => XS.lloadN X16.here hx rfl (hb hby at_69) rfl  k)
  refine own_go (T' := T16) (f' := (mkF m 72 #[.val (.long xa), .second, .val (.int xb), .val (.int xc), .val (.int xd), .val (.int (own_v0_6 xc)), .val (.int (own_v0_22 xc xd)), .val (.ref b1), .unset, .unset, .unset, .unset] [(.int (32 : Int32)), (.long xa), (.int (4 : Int32)), (.ref b1)])) ?_ (fun _ k => XS.bipush X16.here hx rfl (hb hby at_70) k)
  refine own_go (T' := T16) (f' := (mkF m 73 #[.val (.long xa), .second, .val (.int xb), .val (.int xc), .val (.int xd), .val (.int (own_v0_6 xc)), .val (.int (own_v0_22 xc xd)), .val (.ref b1), .unset, .unset, .unset, .unset] [(.long ((xa.toUInt64 >>> ((32 : Int32) &&& 0x3f).toInt64.toUInt64).toInt64)), (.int (4 : Int32)), (.ref b1)])) ?_ (fun _ k => XS.lushr X16.here hx rfl (hb hby at_72) rfl k)
  refine own_go (T' := T16) (f' := (mkF m 74 #[.val (.long xa), .second, .val (.int xb), .val (.int xc), .val (.int xd), .val (.int (own_v0_6 xc)), .val (.int (own_v0_22 xc xd)), .val (.ref b1), .unset, .unset, .unset, .unset] [(.int (((xa.toUInt64 >>> ((32 : Int32) &&& 0x3f).toInt64.toUInt64).toInt64).toInt32)), (.int (4 : Int32)), (.ref b1)])) ?_ (fun _ k => XS.l2i X16.here hx rfl (hb hby at_73) rfl k)
  refine own_go (T' := T16) (f' := (mkF m 75 #[.val (.long xa), .second, .val (.int xb), .val (.int xc), .val (.int xd), .val (.int (own_v0_6 xc)), .val (.int (own_v0_22 xc xd)), .val (.ref b1), .unset, .unset, .unset, .unset] [(.int ((((xa.toUInt64 >>> ((32 : Int32) &&& 0x3f).toInt64.toUInt64).toInt64).toInt32).toInt8.toInt32)), (.int (4 : Int32)), (.ref b1)])) ?_ (fun _ k => XS.i2b X16.here hx rfl (hb hby at_74) rfl k)
  obtain ⟨T20, h20, X20, e20, W20, F20, st20⟩ := own_stB X16 hx hZ e16 Fw16 (j := (4 : Int32)) ⟨by decide, by decide⟩ (g := (mkF m 75 #[.val (.long xa), .second, .val (.int xb), .val (.int xc), .val (.int xd), .val (.int (own_v0_6 xc)), .val (.int (own_v0_22 xc xd)), .val (.ref b1), .unset, .unset, .unset, .unset] [(.int ((((xa.toUInt64 >>> ((32 : Int32) &&& 0x3f).toInt64.toUInt64).toInt64).toInt32).toInt8.toInt32)), (.int (4 : Int32)), (.ref b1)])) rfl rfl (hb hby at_75)
  have fa21 := Sta.wr W20 fa17
  have fa22 := fa18.other W20 ne_os_b1
  have Fw20 : own_AI Z h20 b1 .byte (5 : Int32) [((xa.toInt32).toInt8.toInt32).toInt8.toInt32, (own_v0_45 xa).toInt8.toInt32, (own_v0_55 xa).toInt8.toInt32, (own_v0_65 xa).toInt8.toInt32, (own_v0_75 xa).toInt8.toInt32] := F20
  have N20 := Fr.snoc X20 N16 g_b1
  have KK20 : Keep h0 h20 [] := KK16.wr W20 (Or.inr sz_b1)
  have ZZ20 : n0 ≤ h20.size := Nat.le_trans ZZ16 (Keep.of_wr W20).1
  refine own_go (T' := T20) (f' := (mkF m 76 #[.val (.long xa), .second, .val (.int xb), .val (.int xc), .val (.int xd), .val (.int (own_v0_6 xc)), .val (.int (own_v0_22 xc xd)), .val (.ref b1), .unset, .unset, .unset, .unset] [])) ?_ (st20)
  refine own_go (T' := T20) (f' := (mkF m 77 #[.val (.long xa), .second, .val (.int xb), .val (.int xc), .val (.int xd), .val (.int (own_v0_6 xc)), .val (.int (own_v0_22 xc xd)), .val (.ref b1), .unset, .unset, .unset, .unset] [(.int xb)])) ?_ (fun _ k => XS.iloadN X20.here hx rfl (hb hby at_76) rfl  k)
  refine own_go (T' := T20) (f' := (mkF m 78 #[.val (.long xa), .second, .val (.int xb), .val (.int xc), .val (.int xd), .val (.int (own_v0_6 xc)), .val (.int (own_v0_22 xc xd)), .val (.ref b1), .unset, .unset, .unset, .unset] [(.int (1 : Int32)), (.int xb)])) ?_ (fun _ k => XS.iconst X20.here hx rfl (hb hby at_77) k)
  refine own_go (T' := T20) (f' := (mkF m 79 #[.val (.long xa), .second, .val (.int xb), .val (.int xc), .val (.int xd), .val (.int (own_v0_6 xc)), .val (.int (own_v0_22 xc xd)), .val (.ref b1), .unset, .unset, .unset, .unset] [(.int (xb &&& (1 : Int32)))])) ?_ (fun _ k => XS.iand X20.here hx rfl (hb hby at_78) rfl k)
  obtain ⟨_, ⟨T24, L24, h24, rfl, X24, e24, N24, KK24, ZZ24, fm24_1, fm24_2, fm24_3⟩, mg24⟩ : own_Goes p.tables e below (fun uu => ∃ (T' : State) (L' : List Loc) (h' : Heap), uu = T'.setTop (mkF m 89 #[.val (.long xa), .second, .val (.int xb), .val (.int xc), .val (.int xd), .val (.int (own_v0_6 xc)), .val (.int (own_v0_22 xc xd)), .val (.ref b1), .unset, .unset, .unset, .unset] []) ∧ Stand p l e room_1 s m #[(.long xa), (.int xb), (.int xc), (.int xd)] below meth c T' L' 1 5 ∧ T'.heap = h' ∧ Fr n0 L' ∧ Keep h0 h' [] ∧ n0 ≤ h'.size ∧ Sta Z h' "com/example/monitorgen/monitorgen/trace/Utf8Text" "BYTE_ORDER_MARK" "[B" (.ref os) ∧ own_AI Z h' os .byte (3 : Int32) [(-17 : Int32), (-69 : Int32), (-65 : Int32)] ∧ own_AI Z h' b1 .byte (5 : Int32) (own_v0_79_l2 xa xb xc)) T20 (mkF m 79 #[.val (.long xa), .second, .val (.int xb), .val (.int xc), .val (.int xd), .val (.int (own_v0_6 xc)), .val (.int (own_v0_22 xc xd)), .val (.ref b1), .unset, .unset, .unset, .unset] [(.int (xb &&& (1 : Int32)))]) := by
    by_cases hc79_25 : (xb &&& (1 : Int32)) = (0 : Int32)
    · refine own_go (T' := T20) (f' := (mkF m 89 #[.val (.long xa), .second, .val (.int xb), .val (.int xc), .val (.int xd), .val (.int (own_v0_6 xc)), .val (.int (own_v0_22 xc xd)), .val (.ref b1), .unset, .unset, .unset, .unset] [])) ?_ (fun _ k => XS.ifYes X20.here hx rfl (pc0 := 79) (pc' := 89) rfl (hb hby at_79) rfl ((if0 _ _).trans (teq hc79_25).1) (by decide) (by decide) k)
      have em26 : (own_v0_79_l2 xa xb xc) = [((xa.toInt32).toInt8.toInt32).toInt8.toInt32, (own_v0_45 xa).toInt8.toInt32, (own_v0_55 xa).toInt8.toInt32, (own_v0_65 xa).toInt8.toInt32, (own_v0_75 xa).toInt8.toInt32] := (if_pos hc79_25)
      exact ⟨_, ⟨T20, _, h20, (by rfl), X20, e20, N20, KK20, ZZ20, fa21, fa22, (by rw [em26]; exact Fw20)⟩, fun _ k => k⟩
    · refine own_go (T' := T20) (f' := (mkF m 82 #[.val (.long xa), .second, .val (.int xb), .val (.int xc), .val (.int xd), .val (.int (own_v0_6 xc)), .val (.int (own_v0_22 xc xd)), .val (.ref b1), .unset, .unset, .unset, .unset] [])) ?_ (fun _ k => XS.ifNo X20.here hx rfl (hb hby at_79) rfl ((if0 _ _).trans (feq hc79_25).1) k)
      refine own_go (T' := T20) (f' := (mkF m 84 #[.val (.long xa), .second, .val (.int xb), .val (.int xc), .val (.int xd), .val (.int (own_v0_6 xc)), .val (.int (own_v0_22 xc xd)), .val (.ref b1), .unset, .unset, .unset, .unset] [(.ref b1)])) ?_ (fun _ k => XS.aload X20.here hx rfl (hb hby at_82) rfl rfl k)
      refine own_go (T' := T20) (f' := (mkF m 86 #[.val (.long xa), .second, .val (.int xb), .val (.int xc), .val (.int xd), .val (.int (own_v0_6 xc)), .val (.int (own_v0_22 xc xd)), .val (.ref b1), .unset, .unset, .unset, .unset] [(.int (own_v0_6 xc)), (.ref b1)])) ?_ (fun _ k => XS.iload X20.here hx rfl (hb hby at_84) rfl  k)
      refine own_go (T' := T20) (f' := (mkF m 88 #[.val (.long xa), .second, .val (.int xb), .val (.int xc), .val (.int xd), .val (.int (own_v0_6 xc)), .val (.int (own_v0_22 xc xd)), .val (.ref b1), .unset, .unset, .unset, .unset] [(.int (-17 : Int32)), (.int (own_v0_6 xc)), (.ref b1)])) ?_ (fun _ k => XS.bipush X20.here hx rfl (hb hby at_86) k)
      obtain ⟨T27, h27, X27, e27, W27, F27, st27⟩ := own_stB X20 hx hZ e20 Fw20 (j := (own_v0_6 xc)) (own_pl0 (own_pl3 xc)) (g := (mkF m 88 #[.val (.long xa), .second, .val (.int xb), .val (.int xc), .val (.int xd), .val (.int (own_v0_6 xc)), .val (.int (own_v0_22 xc xd)), .val (.ref b1), .unset, .unset, .unset, .unset] [(.int (-17 : Int32)), (.int (own_v0_6 xc)), (.ref b1)])) rfl rfl (hb hby at_88)
      have fa28 := Sta.wr W27 fa21
      have fa29 := fa22.other W27 ne_os_b1
      have Fw27 : own_AI Z h27 b1 .byte (5 : Int32) ([((xa.toInt32).toInt8.toInt32).toInt8.toInt32, (own_v0_45 xa).toInt8.toInt32, (own_v0_55 xa).toInt8.toInt32, (own_v0_65 xa).toInt8.toInt32, (own_v0_75 xa).toInt8.toInt32].set ((own_v0_6 xc)).toNatClampNeg (-17 : Int32).toInt8.toInt32) := F27
      have N27 := Fr.snoc X27 N20 g_b1
      have KK27 : Keep h0 h27 [] := KK20.wr W27 (Or.inr sz_b1)
      have ZZ27 : n0 ≤ h27.size := Nat.le_trans ZZ20 (Keep.of_wr W27).1
      refine own_go (T' := T27) (f' := (mkF m 89 #[.val (.long xa), .second, .val (.int xb), .val (.int xc), .val (.int xd), .val (.int (own_v0_6 xc)), .val (.int (own_v0_22 xc xd)), .val (.ref b1), .unset, .unset, .unset, .unset] [])) ?_ (st27)
      have em31 : (own_v0_79_l2 xa xb xc) = ([((xa.toInt32).toInt8.toInt32).toInt8.toInt32, (own_v0_45 xa).toInt8.toInt32, (own_v0_55 xa).toInt8.toInt32, (own_v0_65 xa).toInt8.toInt32, (own_v0_75 xa).toInt8.toInt32].set ((own_v0_6 xc)).toNatClampNeg (-17 : Int32).toInt8.toInt32) := (if_neg hc79_25)
      exact ⟨_, ⟨T27, _, h27, (by rfl), X27, e27, N27, KK27, ZZ27, fa28, fa29, (by rw [em31]; exact Fw27)⟩, fun _ k => k⟩
  refine own_go (T' := T24) (f' := (mkF m 89 #[.val (.long xa), .second, .val (.int xb), .val (.int xc), .val (.int xd), .val (.int (own_v0_6 xc)), .val (.int (own_v0_22 xc xd)), .val (.ref b1), .unset, .unset, .unset, .unset] [])) ?_ (mg24)
  refine own_go (T' := T24) (f' := (mkF m 90 #[.val (.long xa), .second, .val (.int xb), .val (.int xc), .val (.int xd), .val (.int (own_v0_6 xc)), .val (.int (own_v0_22 xc xd)), .val (.ref b1), .unset, .unset, .unset, .unset] [(.int xb)])) ?_ (fun _ k => XS.iloadN X24.here hx rfl (hb hby at_89) rfl  k)
  refine own_go (T' := T24) (f' := (mkF m 91 #[.val (.long xa), .second, .val (.int xb), .val (.int xc), .val (.int xd), .val (.int (own_v0_6 xc)), .val (.int (own_v0_22 xc xd)), .val (.ref b1), .unset, .unset, .unset, .unset] [(.int (2 : Int32)), (.int xb)])) ?_ (fun _ k => XS.iconst X24.here hx rfl (hb hby at_90) k)
  refine own_go (T' := T24) (f' := (mkF m 92 #[.val (.long xa), .second, .val (.int xb), .val (.int xc), .val (.int xd), .val (.int (own_v0_6 xc)), .val (.int (own_v0_22 xc xd)), .val (.ref b1), .unset, .unset, .unset, .unset] [(.int (xb &&& (2 : Int32)))])) ?_ (fun _ k => XS.iand X24.here hx rfl (hb hby at_91) rfl k)
  obtain ⟨_, ⟨T32, L32, h32, rfl, X32, e32, N32, KK32, ZZ32, fm32_1, fm32_2, fm32_3⟩, mg32⟩ : own_Goes p.tables e below (fun uu => ∃ (T' : State) (L' : List Loc) (h' : Heap), uu = T'.setTop (mkF m 104 #[.val (.long xa), .second, .val (.int xb), .val (.int xc), .val (.int xd), .val (.int (own_v0_6 xc)), .val (.int (own_v0_22 xc xd)), .val (.ref b1), .unset, .unset, .unset, .unset] []) ∧ Stand p l e room_1 s m #[(.long xa), (.int xb), (.int xc), (.int xd)] below meth c T' L' 1 5 ∧ T'.heap = h' ∧ Fr n0 L' ∧ Keep h0 h' [] ∧ n0 ≤ h'.size ∧ Sta Z h' "com/example/monitorgen/monitorgen/trace/Utf8Text" "BYTE_ORDER_MARK" "[B" (.ref os) ∧ own_AI Z h' os .byte (3 : Int32) [(-17 : Int32), (-69 : Int32), (-65 : Int32)] ∧ own_AI Z h' b1 .byte (5 : Int32) (own_v0_92_l2 xa xb xc)) T24 (mkF m 92 #[.val (.long xa), .second, .val (.int xb), .val (.int xc), .val (.int xd), .val (.int (own_v0_6 xc)), .val (.int (own_v0_22 xc xd)), .val (.ref b1), .unset, .unset, .unset, .unset] [(.int (xb &&& (2 : Int32)))]) := by
    by_cases hc92_33 : (xb &&& (2 : Int32)) = (0 : Int32)
    · refine own_go (T' := T24) (f' := (mkF m 104 #[.val (.long xa), .second, .val (.int xb), .val (.int xc), .val (.int xd), .val (.int (own_v0_6 xc)), .val (.int (own_v0_22 xc xd)), .val (.ref b1), .unset, .unset, .unset, .unset] [])) ?_ (fun _ k => XS.ifYes X24.here hx rfl (pc0 := 92) (pc' := 104) rfl (hb hby at_92) rfl ((if0 _ _).trans (teq hc92_33).1) (by decide) (by decide) k)
      have em34 : (own_v0_92_l2 xa xb xc) = (own_v0_79_l2 xa xb xc) := (if_pos hc92_33)
      exact ⟨_, ⟨T24, _, h24, (by rfl), X24, e24, N24, KK24, ZZ24, fm24_1, fm24_2, (by rw [em34]; exact fm24_3)⟩, fun _ k => k⟩
    · refine own_go (T' := T24) (f' := (mkF m 95 #[.val (.long xa), .second, .val (.int xb), .val (.int xc), .val (.int xd), .val (.int (own_v0_6 xc)), .val (.int (own_v0_22 xc xd)), .val (.ref b1), .unset, .unset, .unset, .unset] [])) ?_ (fun _ k => XS.ifNo X24.here hx rfl (hb hby at_92) rfl ((if0 _ _).trans (feq hc92_33).1) k)
      refine own_go (T' := T24) (f' := (mkF m 97 #[.val (.long xa), .second, .val (.int xb), .val (.int xc), .val (.int xd), .val (.int (own_v0_6 xc)), .val (.int (own_v0_22 xc xd)), .val (.ref b1), .unset, .unset, .unset, .unset] [(.ref b1)])) ?_ (fun _ k => XS.aload X24.here hx rfl (hb hby at_95) rfl rfl k)
      refine own_go (T' := T24) (f' := (mkF m 99 #[.val (.long xa), .second, .val (.int xb), .val (.int xc), .val (.int xd), .val (.int (own_v0_6 xc)), .val (.int (own_v0_22 xc xd)), .val (.ref b1), .unset, .unset, .unset, .unset] [(.int (own_v0_6 xc)), (.ref b1)])) ?_ (fun _ k => XS.iload X24.here hx rfl (hb hby at_97) rfl  k)
      refine own_go (T' := T24) (f' := (mkF m 100 #[.val (.long xa), .second, .val (.int xb), .val (.int xc), .val (.int xd), .val (.int (own_v0_6 xc)), .val (.int (own_v0_22 xc xd)), .val (.ref b1), .unset, .unset, .unset, .unset] [(.int (1 : Int32)), (.int (own_v0_6 xc)), (.ref b1)])) ?_ (fun _ k => XS.iconst X24.here hx rfl (hb hby at_99) k)
      refine own_go (T' := T24) (f' := (mkF m 101 #[.val (.long xa), .second, .val (.int xb), .val (.int xc), .val (.int xd), .val (.int (own_v0_6 xc)), .val (.int (own_v0_22 xc xd)), .val (.ref b1), .unset, .unset, .unset, .unset] [(.int ((own_v0_6 xc) + (1 : Int32))), (.ref b1)])) ?_ (fun _ k => XS.iadd X24.here hx rfl (hb hby at_100) rfl k)
      refine own_go (T' := T24) (f' := (mkF m 103 #[.val (.long xa), .second, .val (.int xb), .val (.int xc), .val (.int xd), .val (.int (own_v0_6 xc)), .val (.int (own_v0_22 xc xd)), .val (.ref b1), .unset, .unset, .unset, .unset] [(.int (-69 : Int32)), (.int ((own_v0_6 xc) + (1 : Int32))), (.ref b1)])) ?_ (fun _ k => XS.bipush X24.here hx rfl (hb hby at_101) k)
      obtain ⟨T35, h35, X35, e35, W35, F35, st35⟩ := own_stB X24 hx hZ e24 fm24_3 (j := ((own_v0_6 xc) + (1 : Int32))) (own_pl (own_pl3 xc) 1) (g := (mkF m 103 #[.val (.long xa), .second, .val (.int xb), .val (.int xc), .val (.int xd), .val (.int (own_v0_6 xc)), .val (.int (own_v0_22 xc xd)), .val (.ref b1), .unset, .unset, .unset, .unset] [(.int (-69 : Int32)), (.int ((own_v0_6 xc) + (1 : Int32))), (.ref b1)])) rfl rfl (hb hby at_103)
      have fa36 := Sta.wr W35 fm24_1
      have fa37 := fm24_2.other W35 ne_os_b1
      have Fw35 : own_AI Z h35 b1 .byte (5 : Int32) ((own_v0_79_l2 xa xb xc).set (((own_v0_6 xc) + (1 : Int32))).toNatClampNeg (-69 : Int32).toInt8.toInt32) := F35
      have N35 := Fr.snoc X35 N24 g_b1
      have KK35 : Keep h0 h35 [] := KK24.wr W35 (Or.inr sz_b1)
      have ZZ35 : n0 ≤ h35.size := Nat.le_trans ZZ24 (Keep.of_wr W35).1
      refine own_go (T' := T35) (f' := (mkF m 104 #[.val (.long xa), .second, .val (.int xb), .val (.int xc), .val (.int xd), .val (.int (own_v0_6 xc)), .val (.int (own_v0_22 xc xd)), .val (.ref b1), .unset, .unset, .unset, .unset] [])) ?_ (st35)
      have em39 : (own_v0_92_l2 xa xb xc) = ((own_v0_79_l2 xa xb xc).set (((own_v0_6 xc) + (1 : Int32))).toNatClampNeg (-69 : Int32).toInt8.toInt32) := (if_neg hc92_33)
      exact ⟨_, ⟨T35, _, h35, (by rfl), X35, e35, N35, KK35, ZZ35, fa36, fa37, (by rw [em39]; exact Fw35)⟩, fun _ k => k⟩
  refine own_go (T' := T32) (f' := (mkF m 104 #[.val (.long xa), .second, .val (.int xb), .val (.int xc), .val (.int xd), .val (.int (own_v0_6 xc)), .val (.int (own_v0_22 xc xd)), .val (.ref b1), .unset, .unset, .unset, .unset] [])) ?_ (mg32)
  refine own_go (T' := T32) (f' := (mkF m 105 #[.val (.long xa), .second, .val (.int xb), .val (.int xc), .val (.int xd), .val (.int (own_v0_6 xc)), .val (.int (own_v0_22 xc xd)), .val (.ref b1), .unset, .unset, .unset, .unset] [(.int xb)])) ?_ (fun _ k => XS.iloadN X32.here hx rfl (hb hby at_104) rfl  k)
  refine own_go (T' := T32) (f' := (mkF m 106 #[.val (.long xa), .second, .val (.int xb), .val (.int xc), .val (.int xd), .val (.int (own_v0_6 xc)), .val (.int (own_v0_22 xc xd)), .val (.ref b1), .unset, .unset, .unset, .unset] [(.int (4 : Int32)), (.int xb)])) ?_ (fun _ k => XS.iconst X32.here hx rfl (hb hby at_105) k)
  refine own_go (T' := T32) (f' := (mkF m 107 #[.val (.long xa), .second, .val (.int xb), .val (.int xc), .val (.int xd), .val (.int (own_v0_6 xc)), .val (.int (own_v0_22 xc xd)), .val (.ref b1), .unset, .unset, .unset, .unset] [(.int (xb &&& (4 : Int32)))])) ?_ (fun _ k => XS.iand X32.here hx rfl (hb hby at_106) rfl k)
  obtain ⟨_, ⟨T40, L40, h40, rfl, X40, e40, N40, KK40, ZZ40, fm40_1, fm40_2, fm40_3⟩, mg40⟩ : own_Goes p.tables e below (fun uu => ∃ (T' : State) (L' : List Loc) (h' : Heap), uu = T'.setTop (mkF m 119 #[.val (.long xa), .second, .val (.int xb), .val (.int xc), .val (.int xd), .val (.int (own_v0_6 xc)), .val (.int (own_v0_22 xc xd)), .val (.ref b1), .unset, .unset, .unset, .unset] []) ∧ Stand p l e room_1 s m #[(.long xa), (.int xb), (.int xc), (.int xd)] below meth c T' L' 1 5 ∧ T'.heap = h' ∧ Fr n0 L' ∧ Keep h0 h' [] ∧ n0 ≤ h'.size ∧ Sta Z h' "com/example/monitorgen/monitorgen/trace/Utf8Text" "BYTE_ORDER_MARK" "[B" (.ref os) ∧ own_AI Z h' os .byte (3 : Int32) [(-17 : Int32), (-69 : Int32), (-65 : Int32)] ∧ own_AI Z h' b1 .byte (5 : Int32) (own_v0_107_l2 xa xb xc)) T32 (mkF m 107 #[.val (.long xa), .second, .val (.int xb), .val (.int xc), .val (.int xd), .val (.int (own_v0_6 xc)), .val (.int (own_v0_22 xc xd)), .val (.ref b1), .unset, .unset, .unset, .unset] [(.int (xb &&& (4 : Int32)))]) := by
    by_cases hc107_41 : (xb &&& (4 : Int32)) = (0 : Int32)
    · refine own_go (T' := T32) (f' := (mkF m 119 #[.val (.long xa), .second, .val (.int xb), .val (.int xc), .val (.int xd), .val (.int (own_v0_6 xc)), .val (.int (own_v0_22 xc xd)), .val (.ref b1), .unset, .unset, .unset, .unset] [])) ?_ (fun _ k => XS.ifYes X32.here hx rfl (pc0 := 107) (pc' := 119) rfl (hb hby at_107) rfl ((if0 _ _).trans (teq hc107_41).1) (by decide) (by decide) k)
      have em42 : (own_v0_107_l2 xa xb xc) = (own_v0_92_l2 xa xb xc) := (if_pos hc107_41)
      exact ⟨_, ⟨T32, _, h32, (by rfl), X32, e32, N32, KK32, ZZ32, fm32_1, fm32_2, (by rw [em42]; exact fm32_3)⟩, fun _ k => k⟩
    · refine own_go (T' := T32) (f' := (mkF m 110 #[.val (.long xa), .second, .val (.int xb), .val (.int xc), .val (.int xd), .val (.int (own_v0_6 xc)), .val (.int (own_v0_22 xc xd)), .val (.ref b1), .unset, .unset, .unset, .unset] [])) ?_ (fun _ k => XS.ifNo X32.here hx rfl (hb hby at_107) rfl ((if0 _ _).trans (feq hc107_41).1) k)
      refine own_go (T' := T32) (f' := (mkF m 112 #[.val (.long xa), .second, .val (.int xb), .val (.int xc), .val (.int xd), .val (.int (own_v0_6 xc)), .val (.int (own_v0_22 xc xd)), .val (.ref b1), .unset, .unset, .unset, .unset] [(.ref b1)])) ?_ (fun _ k => XS.aload X32.here hx rfl (hb hby at_110) rfl rfl k)
      refine own_go (T' := T32) (f' := (mkF m 114 #[.val (.long xa), .second, .val (.int xb), .val (.int xc), .val (.int xd), .val (.int (own_v0_6 xc)), .val (.int (own_v0_22 xc xd)), .val (.ref b1), .unset, .unset, .unset, .unset] [(.int (own_v0_6 xc)), (.ref b1)])) ?_ (fun _ k => XS.iload X32.here hx rfl (hb hby at_112) rfl  k)
      refine own_go (T' := T32) (f' := (mkF m 115 #[.val (.long xa), .second, .val (.int xb), .val (.int xc), .val (.int xd), .val (.int (own_v0_6 xc)), .val (.int (own_v0_22 xc xd)), .val (.ref b1), .unset, .unset, .unset, .unset] [(.int (2 : Int32)), (.int (own_v0_6 xc)), (.ref b1)])) ?_ (fun _ k => XS.iconst X32.here hx rfl (hb hby at_114) k)
      refine own_go (T' := T32) (f' := (mkF m 116 #[.val (.long xa), .second, .val (.int xb), .val (.int xc), .val (.int xd), .val (.int (own_v0_6 xc)), .val (.int (own_v0_22 xc xd)), .val (.ref b1), .unset, .unset, .unset, .unset] [(.int ((own_v0_6 xc) + (2 : Int32))), (.ref b1)])) ?_ (fun _ k => XS.iadd X32.here hx rfl (hb hby at_115) rfl k)
      refine own_go (T' := T32) (f' := (mkF m 118 #[.val (.long xa), .second, .val (.int xb), .val (.int xc), .val (.int xd), .val (.int (own_v0_6 xc)), .val (.int (own_v0_22 xc xd)), .val (.ref b1), .unset, .unset, .unset, .unset] [(.int (-65 : Int32)), (.int ((own_v0_6 xc) + (2 : Int32))), (.ref b1)])) ?_ (fun _ k => XS.bipush X32.here hx rfl (hb hby at_116) k)
      obtain ⟨T43, h43, X43, e43, W43, F43, st43⟩ := own_stB X32 hx hZ e32 fm32_3 (j := ((own_v0_6 xc) + (2 : Int32))) (own_pl (own_pl3 xc) 2) (g := (mkF m 118 #[.val (.long xa), .second, .val (.int xb), .val (.int xc), .val (.int xd), .val (.int (own_v0_6 xc)), .val (.int (own_v0_22 xc xd)), .val (.ref b1), .unset, .unset, .unset, .unset] [(.int (-65 : Int32)), (.int ((own_v0_6 xc) + (2 : Int32))), (.ref b1)])) rfl rfl (hb hby at_118)
      have fa44 := Sta.wr W43 fm32_1
      have fa45 := fm32_2.other W43 ne_os_b1
      have Fw43 : own_AI Z h43 b1 .byte (5 : Int32) ((own_v0_92_l2 xa xb xc).set (((own_v0_6 xc) + (2 : Int32))).toNatClampNeg (-65 : Int32).toInt8.toInt32) := F43
      have N43 := Fr.snoc X43 N32 g_b1
      have KK43 : Keep h0 h43 [] := KK32.wr W43 (Or.inr sz_b1)
      have ZZ43 : n0 ≤ h43.size := Nat.le_trans ZZ32 (Keep.of_wr W43).1
      refine own_go (T' := T43) (f' := (mkF m 119 #[.val (.long xa), .second, .val (.int xb), .val (.int xc), .val (.int xd), .val (.int (own_v0_6 xc)), .val (.int (own_v0_22 xc xd)), .val (.ref b1), .unset, .unset, .unset, .unset] [])) ?_ (st43)
      have em47 : (own_v0_107_l2 xa xb xc) = ((own_v0_92_l2 xa xb xc).set (((own_v0_6 xc) + (2 : Int32))).toNatClampNeg (-65 : Int32).toInt8.toInt32) := (if_neg hc107_41)
      exact ⟨_, ⟨T43, _, h43, (by rfl), X43, e43, N43, KK43, ZZ43, fa44, fa45, (by rw [em47]; exact Fw43)⟩, fun _ k => k⟩
  refine own_go (T' := T40) (f' := (mkF m 119 #[.val (.long xa), .second, .val (.int xb), .val (.int xc), .val (.int xd), .val (.int (own_v0_6 xc)), .val (.int (own_v0_22 xc xd)), .val (.ref b1), .unset, .unset, .unset, .unset] [])) ?_ (mg40)
  refine own_go (T' := T40) (f' := (mkF m 121 #[.val (.long xa), .second, .val (.int xb), .val (.int xc), .val (.int xd), .val (.int (own_v0_6 xc)), .val (.int (own_v0_22 xc xd)), .val (.ref b1), .unset, .unset, .unset, .unset] [(.ref b1)])) ?_ (fun _ k => XS.aload X40.here hx rfl (hb hby at_119) rfl rfl k)
  refine own_go (T' := T40) (f' := (mkF m 123 #[.val (.long xa), .second, .val (.int xb), .val (.int xc), .val (.int xd), .val (.int (own_v0_6 xc)), .val (.int (own_v0_22 xc xd)), .val (.ref b1), .unset, .unset, .unset, .unset] [(.int (own_v0_6 xc)), (.ref b1)])) ?_ (fun _ k => XS.iload X40.here hx rfl (hb hby at_121) rfl  k)
  refine own_go (T' := T40) (f' := (mkF m 125 #[.val (.long xa), .second, .val (.int xb), .val (.int xc), .val (.int xd), .val (.int (own_v0_6 xc)), .val (.int (own_v0_22 xc xd)), .val (.ref b1), .unset, .unset, .unset, .unset] [(.int (own_v0_22 xc xd)), (.int (own_v0_6 xc)), (.ref b1)])) ?_ (fun _ k => XS.iload X40.here hx rfl (hb hby at_123) rfl  k)
  obtain ⟨_, _, ⟨T48, L48, k48, n48⟩, -, X48, ⟨Lc48, hQ48, l48, y48, z48⟩, st48⟩ := Jvm.LawKit.callS X40 hx (y := (⟨"com/example/monitorgen/monitorgen/trace/Utf8Text", "byteOrderMarkLength", "([BII)I"⟩ : MethodName)) hown (mvT hZ (hw _ (List.mem_of_getElem? (i := 2) rfl))) (mvT hZ (hw _ (List.mem_of_getElem? (i := 3) rfl))) (mvT hZ (hw _ (List.mem_of_getElem? (i := 4) rfl))) (mvT hZ (hw _ (List.mem_of_getElem? (i := 5) rfl))) (by decide) (backOf (W := 0) (own_rm1 l Z a0 hw [] b1 (own_v0_6 xc) (own_v0_22 xc xd) os (own_v0_107_l2 xa xb xc) h40 n0 ZZ40 fm40_1 fm40_2 fm40_3 ((own_pl3 xc))) hZ (hw _ (List.mem_of_getElem? (i := 5) rfl)) (hw _ (List.mem_of_getElem? (i := 4) rfl)) (by decide) (by decide)) (g := (mkF m 125 #[.val (.long xa), .second, .val (.int xb), .val (.int xc), .val (.int xd), .val (.int (own_v0_6 xc)), .val (.int (own_v0_22 xc xd)), .val (.ref b1), .unset, .unset, .unset, .unset] [(.int (own_v0_22 xc xd)), (.int (own_v0_6 xc)), (.ref b1)])) rfl (by rw [hml]; rfl) (argsL := [(.ref b1), (.int (own_v0_6 xc)), (.int (own_v0_22 xc xd))]) (rest := []) (lenOf own_pd0 rfl) rfl (by show 2 * 0 + _ ≤ _; exact Nat.le_of_eq rfl) (hb hby at_125) (fun _ _ => ⟨rfl, e40, (by decide : 1 + 0 ≤ _), (by decide : 5 + 0 ≤ _)⟩)
  dsimp only [Pt.U, Pt.locs, Pt.cells, Pt.slots] at X48 l48 y48 z48 st48 hQ48
  subst y48 z48
  obtain ⟨rfl, N48q, e48⟩ := hQ48
  have N48 : Fr n0 L48 := l48 ▸ Fr.app N40 N48q
  refine own_go (T' := T48) (f' := (mkF m 128 #[.val (.long xa), .second, .val (.int xb), .val (.int xc), .val (.int xd), .val (.int (own_v0_6 xc)), .val (.int (own_v0_22 xc xd)), .val (.ref b1), .unset, .unset, .unset, .unset] [(.int (own_f1 (own_v0_6 xc) (own_v0_22 xc xd) (own_v0_107_l2 xa xb xc)))])) ?_ (st48)
  refine own_go (T' := T48) (f' := (mkF m 130 #[.val (.long xa), .second, .val (.int xb), .val (.int xc), .val (.int xd), .val (.int (own_v0_6 xc)), .val (.int (own_v0_22 xc xd)), .val (.ref b1), .val (.int (own_v0_128 xa xb xc xd)), .unset, .unset, .unset] [])) ?_ (fun _ k => XS.istore X48.here hx rfl (hb hby at_128) rfl (l' := #[.val (.long xa), .second, .val (.int xb), .val (.int xc), .val (.int xd), .val (.int (own_v0_6 xc)), .val (.int (own_v0_22 xc xd)), .val (.ref b1), .val (.int (own_v0_128 xa xb xc xd)), .unset, .unset, .unset]) rfl k)
  refine own_go (T' := T48) (f' := (mkF m 132 #[.val (.long xa), .second, .val (.int xb), .val (.int xc), .val (.int xd), .val (.int (own_v0_6 xc)), .val (.int (own_v0_22 xc xd)), .val (.ref b1), .val (.int (own_v0_128 xa xb xc xd)), .unset, .unset, .unset] [(.int (own_v0_22 xc xd))])) ?_ (fun _ k => XS.iload X48.here hx rfl (hb hby at_130) rfl  k)
  refine own_go (T' := T48) (f' := (mkF m 134 #[.val (.long xa), .second, .val (.int xb), .val (.int xc), .val (.int xd), .val (.int (own_v0_6 xc)), .val (.int (own_v0_22 xc xd)), .val (.ref b1), .val (.int (own_v0_128 xa xb xc xd)), .unset, .unset, .unset] [(.int (own_v0_6 xc)), (.int (own_v0_22 xc xd))])) ?_ (fun _ k => XS.iload X48.here hx rfl (hb hby at_132) rfl  k)
  refine own_go (T' := T48) (f' := (mkF m 135 #[.val (.long xa), .second, .val (.int xb), .val (.int xc), .val (.int xd), .val (.int (own_v0_6 xc)), .val (.int (own_v0_22 xc xd)), .val (.ref b1), .val (.int (own_v0_128 xa xb xc xd)), .unset, .unset, .unset] [(.int ((own_v0_22 xc xd) - (own_v0_6 xc)))])) ?_ (fun _ k => XS.isub X48.here hx rfl (hb hby at_134) rfl k)
  refine own_go (T' := T48) (f' := (mkF m 137 #[.val (.long xa), .second, .val (.int xb), .val (.int xc), .val (.int xd), .val (.int (own_v0_6 xc)), .val (.int (own_v0_22 xc xd)), .val (.ref b1), .val (.int (own_v0_128 xa xb xc xd)), .val (.int ((own_v0_22 xc xd) - (own_v0_6 xc))), .unset, .unset] [])) ?_ (fun _ k => XS.istore X48.here hx rfl (hb hby at_135) rfl (l' := #[.val (.long xa), .second, .val (.int xb), .val (.int xc), .val (.int xd), .val (.int (own_v0_6 xc)), .val (.int (own_v0_22 xc xd)), .val (.ref b1), .val (.int (own_v0_128 xa xb xc xd)), .val (.int ((own_v0_22 xc xd) - (own_v0_6 xc))), .unset, .unset]) rfl k)
  refine own_go (T' := T48) (f' := (mkF m 139 #[.val (.long xa), .second, .val (.int xb), .val (.int xc), .val (.int xd), .val (.int (own_v0_6 xc)), .val (.int (own_v0_22 xc xd)), .val (.ref b1), .val (.int (own_v0_128 xa xb xc xd)), .val (.int ((own_v0_22 xc xd) - (own_v0_6 xc))), .unset, .unset] [(.ref b1)])) ?_ (fun _ k => XS.aload X48.here hx rfl (hb hby at_137) rfl rfl k)
  refine own_go (T' := T48) (f' := (mkF m 141 #[.val (.long xa), .second, .val (.int xb), .val (.int xc), .val (.int xd), .val (.int (own_v0_6 xc)), .val (.int (own_v0_22 xc xd)), .val (.ref b1), .val (.int (own_v0_128 xa xb xc xd)), .val (.int ((own_v0_22 xc xd) - (own_v0_6 xc))), .unset, .unset] [(.int (own_v0_6 xc)), (.ref b1)])) ?_ (fun _ k => XS.iload X48.here hx rfl (hb hby at_139) rfl  k)
  refine own_go (T' := T48) (f' := (mkF m 142 #[.val (.long xa), .second, .val (.int xb), .val (.int xc), .val (.int xd), .val (.int (own_v0_6 xc)), .val (.int (own_v0_22 xc xd)), .val (.ref b1), .val (.int (own_v0_128 xa xb xc xd)), .val (.int ((own_v0_22 xc xd) - (own_v0_6 xc))), .unset, .unset] [(.int ((own_v0_107_l2 xa xb xc).getD ((own_v0_6 xc)).toNatClampNeg 0))])) ?_ (own_ldB X48 hx hZ e48 fm40_3 (j := (own_v0_6 xc)) (own_pl0 (own_pl3 xc)) (g := (mkF m 141 #[.val (.long xa), .second, .val (.int xb), .val (.int xc), .val (.int xd), .val (.int (own_v0_6 xc)), .val (.int (own_v0_22 xc xd)), .val (.ref b1), .val (.int (own_v0_128 xa xb xc xd)), .val (.int ((own_v0_22 xc xd) - (own_v0_6 xc))), .unset, .unset] [(.int (own_v0_6 xc)), (.ref b1)])) rfl rfl (hb hby at_141))
  refine own_go (T' := T48) (f' := (mkF m 144 #[.val (.long xa), .second, .val (.int xb), .val (.int xc), .val (.int xd), .val (.int (own_v0_6 xc)), .val (.int (own_v0_22 xc xd)), .val (.ref b1), .val (.int (own_v0_128 xa xb xc xd)), .val (.int ((own_v0_22 xc xd) - (own_v0_6 xc))), .unset, .unset] [(.int (-17 : Int32)), (.int ((own_v0_107_l2 xa xb xc).getD ((own_v0_6 xc)).toNatClampNeg 0))])) ?_ (fun _ k => XS.bipush X48.here hx rfl (hb hby at_142) k)
  obtain ⟨_, ⟨T49, L49, rfl, X49, e49, N49⟩, mg49⟩ : own_Goes p.tables e below (fun uu => ∃ (T' : State) (L' : List Loc), uu = T'.setTop (mkF m 184 #[.val (.long xa), .second, .val (.int xb), .val (.int xc), .val (.int xd), .val (.int (own_v0_6 xc)), .val (.int (own_v0_22 xc xd)), .val (.ref b1), .val (.int (own_v0_128 xa xb xc xd)), .val (.int ((own_v0_22 xc xd) - (own_v0_6 xc))), .unset, .unset] [(.int (own_v0_144_s0 xa xb xc))]) ∧ Stand p l e room_1 s m #[(.long xa), (.int xb), (.int xc), (.int xd)] below meth c T' L' 1 5 ∧ T'.heap = h40 ∧ Fr n0 L') T48 (mkF m 144 #[.val (.long xa), .second, .val (.int xb), .val (.int xc), .val (.int xd), .val (.int (own_v0_6 xc)), .val (.int (own_v0_22 xc xd)), .val (.ref b1), .val (.int (own_v0_128 xa xb xc xd)), .val (.int ((own_v0_22 xc xd) - (own_v0_6 xc))), .unset, .unset] [(.int (-17 : Int32)), (.int ((own_v0_107_l2 xa xb xc).getD ((own_v0_6 xc)).toNatClampNeg 0))]) := by
    by_cases hc144_50 : ((own_v0_107_l2 xa xb xc).getD ((own_v0_6 xc)).toNatClampNeg 0) = (-17 : Int32)
    · refine own_go (T' := T48) (f' := (mkF m 151 #[.val (.long xa), .second, .val (.int xb), .val (.int xc), .val (.int xd), .val (.int (own_v0_6 xc)), .val (.int (own_v0_22 xc xd)), .val (.ref b1), .val (.int (own_v0_128 xa xb xc xd)), .val (.int ((own_v0_22 xc xd) - (own_v0_6 xc))), .unset, .unset] [])) ?_ (fun _ k => XS.icmpYes X48.here hx rfl (pc0 := 144) (pc' := 151) rfl (hb hby at_144) rfl (teq hc144_50).1 (by decide) (by decide) k)
      refine own_go (T' := T48) (f' := (mkF m 153 #[.val (.long xa), .second, .val (.int xb), .val (.int xc), .val (.int xd), .val (.int (own_v0_6 xc)), .val (.int (own_v0_22 xc xd)), .val (.ref b1), .val (.int (own_v0_128 xa xb xc xd)), .val (.int ((own_v0_22 xc xd) - (own_v0_6 xc))), .unset, .unset] [(.ref b1)])) ?_ (fun _ k => XS.aload X48.here hx rfl (hb hby at_151) rfl rfl k)
      refine own_go (T' := T48) (f' := (mkF m 155 #[.val (.long xa), .second, .val (.int xb), .val (.int xc), .val (.int xd), .val (.int (own_v0_6 xc)), .val (.int (own_v0_22 xc xd)), .val (.ref b1), .val (.int (own_v0_128 xa xb xc xd)), .val (.int ((own_v0_22 xc xd) - (own_v0_6 xc))), .unset, .unset] [(.int (own_v0_6 xc)), (.ref b1)])) ?_ (fun _ k => XS.iload X48.here hx rfl (hb hby at_153) rfl  k)
      refine own_go (T' := T48) (f' := (mkF m 156 #[.val (.long xa), .second, .val (.int xb), .val (.int xc), .val (.int xd), .val (.int (own_v0_6 xc)), .val (.int (own_v0_22 xc xd)), .val (.ref b1), .val (.int (own_v0_128 xa xb xc xd)), .val (.int ((own_v0_22 xc xd) - (own_v0_6 xc))), .unset, .unset] [(.int (1 : Int32)), (.int (own_v0_6 xc)), (.ref b1)])) ?_ (fun _ k => XS.iconst X48.here hx rfl (hb hby at_155) k)
      refine own_go (T' := T48) (f' := (mkF m 157 #[.val (.long xa), .second, .val (.int xb), .val (.int xc), .val (.int xd), .val (.int (own_v0_6 xc)), .val (.int (own_v0_22 xc xd)), .val (.ref b1), .val (.int (own_v0_128 xa xb xc xd)), .val (.int ((own_v0_22 xc xd) - (own_v0_6 xc))), .unset, .unset] [(.int ((own_v0_6 xc) + (1 : Int32))), (.ref b1)])) ?_ (fun _ k => XS.iadd X48.here hx rfl (hb hby at_156) rfl k)
      refine own_go (T' := T48) (f' := (mkF m 158 #[.val (.long xa), .second, .val (.int xb), .val (.int xc), .val (.int xd), .val (.int (own_v0_6 xc)), .val (.int (own_v0_22 xc xd)), .val (.ref b1), .val (.int (own_v0_128 xa xb xc xd)), .val (.int ((own_v0_22 xc xd) - (own_v0_6 xc))), .unset, .unset] [(.int ((own_v0_107_l2 xa xb xc).getD (((own_v0_6 xc) + (1 : Int32))).toNatClampNeg 0))])) ?_ (own_ldB X48 hx hZ e48 fm40_3 (j := ((own_v0_6 xc) + (1 : Int32))) (own_pl (own_pl3 xc) 1) (g := (mkF m 157 #[.val (.long xa), .second, .val (.int xb), .val (.int xc), .val (.int xd), .val (.int (own_v0_6 xc)), .val (.int (own_v0_22 xc xd)), .val (.ref b1), .val (.int (own_v0_128 xa xb xc xd)), .val (.int ((own_v0_22 xc xd) - (own_v0_6 xc))), .unset, .unset] [(.int ((own_v0_6 xc) + (1 : Int32))), (.ref b1)])) rfl rfl (hb hby at_157))
      refine own_go (T' := T48) (f' := (mkF m 160 #[.val (.long xa), .second, .val (.int xb), .val (.int xc), .val (.int xd), .val (.int (own_v0_6 xc)), .val (.int (own_v0_22 xc xd)), .val (.ref b1), .val (.int (own_v0_128 xa xb xc xd)), .val (.int ((own_v0_22 xc xd) - (own_v0_6 xc))), .unset, .unset] [(.int (-69 : Int32)), (.int ((own_v0_107_l2 xa xb xc).getD (((own_v0_6 xc) + (1 : Int32))).toNatClampNeg 0))])) ?_ (fun _ k => XS.bipush X48.here hx rfl (hb hby at_158) k)
      by_cases hc160_51 : ((own_v0_107_l2 xa xb xc).getD (((own_v0_6 xc) + (1 : Int32))).toNatClampNeg 0) = (-69 : Int32)
      · refine own_go (T' := T48) (f' := (mkF m 167 #[.val (.long xa), .second, .val (.int xb), .val (.int xc), .val (.int xd), .val (.int (own_v0_6 xc)), .val (.int (own_v0_22 xc xd)), .val (.ref b1), .val (.int (own_v0_128 xa xb xc xd)), .val (.int ((own_v0_22 xc xd) - (own_v0_6 xc))), .unset, .unset] [])) ?_ (fun _ k => XS.icmpYes X48.here hx rfl (pc0 := 160) (pc' := 167) rfl (hb hby at_160) rfl (teq hc160_51).1 (by decide) (by decide) k)
        refine own_go (T' := T48) (f' := (mkF m 169 #[.val (.long xa), .second, .val (.int xb), .val (.int xc), .val (.int xd), .val (.int (own_v0_6 xc)), .val (.int (own_v0_22 xc xd)), .val (.ref b1), .val (.int (own_v0_128 xa xb xc xd)), .val (.int ((own_v0_22 xc xd) - (own_v0_6 xc))), .unset, .unset] [(.ref b1)])) ?_ (fun _ k => XS.aload X48.here hx rfl (hb hby at_167) rfl rfl k)
        refine own_go (T' := T48) (f' := (mkF m 171 #[.val (.long xa), .second, .val (.int xb), .val (.int xc), .val (.int xd), .val (.int (own_v0_6 xc)), .val (.int (own_v0_22 xc xd)), .val (.ref b1), .val (.int (own_v0_128 xa xb xc xd)), .val (.int ((own_v0_22 xc xd) - (own_v0_6 xc))), .unset, .unset] [(.int (own_v0_6 xc)), (.ref b1)])) ?_ (fun _ k => XS.iload X48.here hx rfl (hb hby at_169) rfl  k)
        refine own_go (T' := T48) (f' := (mkF m 172 #[.val (.long xa), .second, .val (.int xb), .val (.int xc), .val (.int xd), .val (.int (own_v0_6 xc)), .val (.int (own_v0_22 xc xd)), .val (.ref b1), .val (.int (own_v0_128 xa xb xc xd)), .val (.int ((own_v0_22 xc xd) - (own_v0_6 xc))), .unset, .unset] [(.int (2 : Int32)), (.int (own_v0_6 xc)), (.ref b1)])) ?_ (fun _ k => XS.iconst X48.here hx rfl (hb hby at_171) k)
        refine own_go (T' := T48) (f' := (mkF m 173 #[.val (.long xa), .second, .val (.int xb), .val (.int xc), .val (.int xd), .val (.int (own_v0_6 xc)), .val (.int (own_v0_22 xc xd)), .val (.ref b1), .val (.int (own_v0_128 xa xb xc xd)), .val (.int ((own_v0_22 xc xd) - (own_v0_6 xc))), .unset, .unset] [(.int ((own_v0_6 xc) + (2 : Int32))), (.ref b1)])) ?_ (fun _ k => XS.iadd X48.here hx rfl (hb hby at_172) rfl k)
        refine own_go (T' := T48) (f' := (mkF m 174 #[.val (.long xa), .second, .val (.int xb), .val (.int xc), .val (.int xd), .val (.int (own_v0_6 xc)), .val (.int (own_v0_22 xc xd)), .val (.ref b1), .val (.int (own_v0_128 xa xb xc xd)), .val (.int ((own_v0_22 xc xd) - (own_v0_6 xc))), .unset, .unset] [(.int ((own_v0_107_l2 xa xb xc).getD (((own_v0_6 xc) + (2 : Int32))).toNatClampNeg 0))])) ?_ (own_ldB X48 hx hZ e48 fm40_3 (j := ((own_v0_6 xc) + (2 : Int32))) (own_pl (own_pl3 xc) 2) (g := (mkF m 173 #[.val (.long xa), .second, .val (.int xb), .val (.int xc), .val (.int xd), .val (.int (own_v0_6 xc)), .val (.int (own_v0_22 xc xd)), .val (.ref b1), .val (.int (own_v0_128 xa xb xc xd)), .val (.int ((own_v0_22 xc xd) - (own_v0_6 xc))), .unset, .unset] [(.int ((own_v0_6 xc) + (2 : Int32))), (.ref b1)])) rfl rfl (hb hby at_173))
        refine own_go (T' := T48) (f' := (mkF m 176 #[.val (.long xa), .second, .val (.int xb), .val (.int xc), .val (.int xd), .val (.int (own_v0_6 xc)), .val (.int (own_v0_22 xc xd)), .val (.ref b1), .val (.int (own_v0_128 xa xb xc xd)), .val (.int ((own_v0_22 xc xd) - (own_v0_6 xc))), .unset, .unset] [(.int (-65 : Int32)), (.int ((own_v0_107_l2 xa xb xc).getD (((own_v0_6 xc) + (2 : Int32))).toNatClampNeg 0))])) ?_ (fun _ k => XS.bipush X48.here hx rfl (hb hby at_174) k)
        by_cases hc176_52 : ((own_v0_107_l2 xa xb xc).getD (((own_v0_6 xc) + (2 : Int32))).toNatClampNeg 0) = (-65 : Int32)
        · refine own_go (T' := T48) (f' := (mkF m 183 #[.val (.long xa), .second, .val (.int xb), .val (.int xc), .val (.int xd), .val (.int (own_v0_6 xc)), .val (.int (own_v0_22 xc xd)), .val (.ref b1), .val (.int (own_v0_128 xa xb xc xd)), .val (.int ((own_v0_22 xc xd) - (own_v0_6 xc))), .unset, .unset] [])) ?_ (fun _ k => XS.icmpYes X48.here hx rfl (pc0 := 176) (pc' := 183) rfl (hb hby at_176) rfl (teq hc176_52).1 (by decide) (by decide) k)
          refine own_go (T' := T48) (f' := (mkF m 184 #[.val (.long xa), .second, .val (.int xb), .val (.int xc), .val (.int xd), .val (.int (own_v0_6 xc)), .val (.int (own_v0_22 xc xd)), .val (.ref b1), .val (.int (own_v0_128 xa xb xc xd)), .val (.int ((own_v0_22 xc xd) - (own_v0_6 xc))), .unset, .unset] [(.int (3 : Int32))])) ?_ (fun _ k => XS.iconst X48.here hx rfl (hb hby at_183) k)
          have em53 : (own_v0_144_s0 xa xb xc) = (3 : Int32) := (Eq.trans (if_pos hc144_50) (Eq.trans (if_pos hc160_51) (if_pos hc176_52)))
          exact ⟨_, ⟨T48, _, (by rw [em53]), X48, e48, N48⟩, fun _ k => k⟩
        · refine own_go (T' := T48) (f' := (mkF m 179 #[.val (.long xa), .second, .val (.int xb), .val (.int xc), .val (.int xd), .val (.int (own_v0_6 xc)), .val (.int (own_v0_22 xc xd)), .val (.ref b1), .val (.int (own_v0_128 xa xb xc xd)), .val (.int ((own_v0_22 xc xd) - (own_v0_6 xc))), .unset, .unset] [])) ?_ (fun _ k => XS.icmpNo X48.here hx rfl (hb hby at_176) rfl (feq hc176_52).1 k)
          refine own_go (T' := T48) (f' := (mkF m 180 #[.val (.long xa), .second, .val (.int xb), .val (.int xc), .val (.int xd), .val (.int (own_v0_6 xc)), .val (.int (own_v0_22 xc xd)), .val (.ref b1), .val (.int (own_v0_128 xa xb xc xd)), .val (.int ((own_v0_22 xc xd) - (own_v0_6 xc))), .unset, .unset] [(.int (2 : Int32))])) ?_ (fun _ k => XS.iconst X48.here hx rfl (hb hby at_179) k)
          refine own_go (T' := T48) (f' := (mkF m 184 #[.val (.long xa), .second, .val (.int xb), .val (.int xc), .val (.int xd), .val (.int (own_v0_6 xc)), .val (.int (own_v0_22 xc xd)), .val (.ref b1), .val (.int (own_v0_128 xa xb xc xd)), .val (.int ((own_v0_22 xc xd) - (own_v0_6 xc))), .unset, .unset] [(.int (2 : Int32))])) ?_ (fun _ k => XS.goto X48.here hx rfl (pc0 := 180) (pc' := 184) rfl (hb hby at_180) (by decide) (by decide) k)
          have em54 : (own_v0_144_s0 xa xb xc) = (2 : Int32) := (Eq.trans (if_pos hc144_50) (Eq.trans (if_pos hc160_51) (if_neg hc176_52)))
          exact ⟨_, ⟨T48, _, (by rw [em54]), X48, e48, N48⟩, fun _ k => k⟩
      · refine own_go (T' := T48) (f' := (mkF m 163 #[.val (.long xa), .second, .val (.int xb), .val (.int xc), .val (.int xd), .val (.int (own_v0_6 xc)), .val (.int (own_v0_22 xc xd)), .val (.ref b1), .val (.int (own_v0_128 xa xb xc xd)), .val (.int ((own_v0_22 xc xd) - (own_v0_6 xc))), .unset, .unset] [])) ?_ (fun _ k => XS.icmpNo X48.here hx rfl (hb hby at_160) rfl (feq hc160_51).1 k)
        refine own_go (T' := T48) (f' := (mkF m 164 #[.val (.long xa), .second, .val (.int xb), .val (.int xc), .val (.int xd), .val (.int (own_v0_6 xc)), .val (.int (own_v0_22 xc xd)), .val (.ref b1), .val (.int (own_v0_128 xa xb xc xd)), .val (.int ((own_v0_22 xc xd) - (own_v0_6 xc))), .unset, .unset] [(.int (1 : Int32))])) ?_ (fun _ k => XS.iconst X48.here hx rfl (hb hby at_163) k)
        refine own_go (T' := T48) (f' := (mkF m 184 #[.val (.long xa), .second, .val (.int xb), .val (.int xc), .val (.int xd), .val (.int (own_v0_6 xc)), .val (.int (own_v0_22 xc xd)), .val (.ref b1), .val (.int (own_v0_128 xa xb xc xd)), .val (.int ((own_v0_22 xc xd) - (own_v0_6 xc))), .unset, .unset] [(.int (1 : Int32))])) ?_ (fun _ k => XS.goto X48.here hx rfl (pc0 := 164) (pc' := 184) rfl (hb hby at_164) (by decide) (by decide) k)
        have em55 : (own_v0_144_s0 xa xb xc) = (1 : Int32) := (Eq.trans (if_pos hc144_50) (if_neg hc160_51))
        exact ⟨_, ⟨T48, _, (by rw [em55]), X48, e48, N48⟩, fun _ k => k⟩
    · refine own_go (T' := T48) (f' := (mkF m 147 #[.val (.long xa), .second, .val (.int xb), .val (.int xc), .val (.int xd), .val (.int (own_v0_6 xc)), .val (.int (own_v0_22 xc xd)), .val (.ref b1), .val (.int (own_v0_128 xa xb xc xd)), .val (.int ((own_v0_22 xc xd) - (own_v0_6 xc))), .unset, .unset] [])) ?_ (fun _ k => XS.icmpNo X48.here hx rfl (hb hby at_144) rfl (feq hc144_50).1 k)
      refine own_go (T' := T48) (f' := (mkF m 148 #[.val (.long xa), .second, .val (.int xb), .val (.int xc), .val (.int xd), .val (.int (own_v0_6 xc)), .val (.int (own_v0_22 xc xd)), .val (.ref b1), .val (.int (own_v0_128 xa xb xc xd)), .val (.int ((own_v0_22 xc xd) - (own_v0_6 xc))), .unset, .unset] [(.int (0 : Int32))])) ?_ (fun _ k => XS.iconst X48.here hx rfl (hb hby at_147) k)
      refine own_go (T' := T48) (f' := (mkF m 184 #[.val (.long xa), .second, .val (.int xb), .val (.int xc), .val (.int xd), .val (.int (own_v0_6 xc)), .val (.int (own_v0_22 xc xd)), .val (.ref b1), .val (.int (own_v0_128 xa xb xc xd)), .val (.int ((own_v0_22 xc xd) - (own_v0_6 xc))), .unset, .unset] [(.int (0 : Int32))])) ?_ (fun _ k => XS.goto X48.here hx rfl (pc0 := 148) (pc' := 184) rfl (hb hby at_148) (by decide) (by decide) k)
      have em56 : (own_v0_144_s0 xa xb xc) = (0 : Int32) := (if_neg hc144_50)
      exact ⟨_, ⟨T48, _, (by rw [em56]), X48, e48, N48⟩, fun _ k => k⟩
  refine own_go (T' := T49) (f' := (mkF m 184 #[.val (.long xa), .second, .val (.int xb), .val (.int xc), .val (.int xd), .val (.int (own_v0_6 xc)), .val (.int (own_v0_22 xc xd)), .val (.ref b1), .val (.int (own_v0_128 xa xb xc xd)), .val (.int ((own_v0_22 xc xd) - (own_v0_6 xc))), .unset, .unset] [(.int (own_v0_144_s0 xa xb xc))])) ?_ (mg49)
  refine own_go (T' := T49) (f' := (mkF m 186 #[.val (.long xa), .second, .val (.int xb), .val (.int xc), .val (.int xd), .val (.int (own_v0_6 xc)), .val (.int (own_v0_22 xc xd)), .val (.ref b1), .val (.int (own_v0_128 xa xb xc xd)), .val (.int ((own_v0_22 xc xd) - (own_v0_6 xc))), .val (.int (own_v0_144_s0 xa xb xc)), .unset] [])) ?_ (fun _ k => XS.istore X49.here hx rfl (hb hby at_184) rfl (l' := #[.val (.long xa), .second, .val (.int xb), .val (.int xc), .val (.int xd), .val (.int (own_v0_6 xc)), .val (.int (own_v0_22 xc xd)), .val (.ref b1), .val (.int (own_v0_128 xa xb xc xd)), .val (.int ((own_v0_22 xc xd) - (own_v0_6 xc))), .val (.int (own_v0_144_s0 xa xb xc)), .unset]) rfl k)
  refine own_go (T' := T49) (f' := (mkF m 188 #[.val (.long xa), .second, .val (.int xb), .val (.int xc), .val (.int xd), .val (.int (own_v0_6 xc)), .val (.int (own_v0_22 xc xd)), .val (.ref b1), .val (.int (own_v0_128 xa xb xc xd)), .val (.int ((own_v0_22 xc xd) - (own_v0_6 xc))), .val (.int (own_v0_144_s0 xa xb xc)), .unset] [(.int (own_v0_144_s0 xa xb xc))])) ?_ (fun _ k => XS.iload X49.here hx rfl (hb hby at_186) rfl  k)
  refine own_go (T' := T49) (f' := (mkF m 189 #[.val (.long xa), .second, .val (.int xb), .val (.int xc), .val (.int xd), .val (.int (own_v0_6 xc)), .val (.int (own_v0_22 xc xd)), .val (.ref b1), .val (.int (own_v0_128 xa xb xc xd)), .val (.int ((own_v0_22 xc xd) - (own_v0_6 xc))), .val (.int (own_v0_144_s0 xa xb xc)), .unset] [(.int (3 : Int32)), (.int (own_v0_144_s0 xa xb xc))])) ?_ (fun _ k => XS.iconst X49.here hx rfl (hb hby at_188) k)
  obtain ⟨_, ⟨T57, L57, rfl, X57, e57, N57⟩, mg57⟩ : own_Goes p.tables e below (fun uu => ∃ (T' : State) (L' : List Loc), uu = T'.setTop (mkF m 214 #[.val (.long xa), .second, .val (.int xb), .val (.int xc), .val (.int xd), .val (.int (own_v0_6 xc)), .val (.int (own_v0_22 xc xd)), .val (.ref b1), .val (.int (own_v0_128 xa xb xc xd)), .val (.int ((own_v0_22 xc xd) - (own_v0_6 xc))), .val (.int (own_v0_144_s0 xa xb xc)), .unset] [(.int (own_v0_189_s0 xa xb xc xd))]) ∧ Stand p l e room_1 s m #[(.long xa), (.int xb), (.int xc), (.int xd)] below meth c T' L' 1 5 ∧ T'.heap = h40 ∧ Fr n0 L') T49 (mkF m 189 #[.val (.long xa), .second, .val (.int xb), .val (.int xc), .val (.int xd), .val (.int (own_v0_6 xc)), .val (.int (own_v0_22 xc xd)), .val (.ref b1), .val (.int (own_v0_128 xa xb xc xd)), .val (.int ((own_v0_22 xc xd) - (own_v0_6 xc))), .val (.int (own_v0_144_s0 xa xb xc)), .unset] [(.int (3 : Int32)), (.int (own_v0_144_s0 xa xb xc))]) := by
    by_cases hc189_58 : (own_v0_144_s0 xa xb xc) = (3 : Int32)
    · refine own_go (T' := T49) (f' := (mkF m 192 #[.val (.long xa), .second, .val (.int xb), .val (.int xc), .val (.int xd), .val (.int (own_v0_6 xc)), .val (.int (own_v0_22 xc xd)), .val (.ref b1), .val (.int (own_v0_128 xa xb xc xd)), .val (.int ((own_v0_22 xc xd) - (own_v0_6 xc))), .val (.int (own_v0_144_s0 xa xb xc)), .unset] [])) ?_ (fun _ k => XS.icmpNo X49.here hx rfl (hb hby at_189) rfl (teq hc189_58).2 k)
      refine own_go (T' := T49) (f' := (mkF m 194 #[.val (.long xa), .second, .val (.int xb), .val (.int xc), .val (.int xd), .val (.int (own_v0_6 xc)), .val (.int (own_v0_22 xc xd)), .val (.ref b1), .val (.int (own_v0_128 xa xb xc xd)), .val (.int ((own_v0_22 xc xd) - (own_v0_6 xc))), .val (.int (own_v0_144_s0 xa xb xc)), .unset] [(.int ((own_v0_22 xc xd) - (own_v0_6 xc)))])) ?_ (fun _ k => XS.iload X49.here hx rfl (hb hby at_192) rfl  k)
      refine own_go (T' := T49) (f' := (mkF m 195 #[.val (.long xa), .second, .val (.int xb), .val (.int xc), .val (.int xd), .val (.int (own_v0_6 xc)), .val (.int (own_v0_22 xc xd)), .val (.ref b1), .val (.int (own_v0_128 xa xb xc xd)), .val (.int ((own_v0_22 xc xd) - (own_v0_6 xc))), .val (.int (own_v0_144_s0 xa xb xc)), .unset] [(.int (3 : Int32)), (.int ((own_v0_22 xc xd) - (own_v0_6 xc)))])) ?_ (fun _ k => XS.iconst X49.here hx rfl (hb hby at_194) k)
      by_cases hc195_59 : ((own_v0_22 xc xd) - (own_v0_6 xc)) < (3 : Int32)
      · refine own_go (T' := T49) (f' := (mkF m 202 #[.val (.long xa), .second, .val (.int xb), .val (.int xc), .val (.int xd), .val (.int (own_v0_6 xc)), .val (.int (own_v0_22 xc xd)), .val (.ref b1), .val (.int (own_v0_128 xa xb xc xd)), .val (.int ((own_v0_22 xc xd) - (own_v0_6 xc))), .val (.int (own_v0_144_s0 xa xb xc)), .unset] [])) ?_ (fun _ k => XS.icmpYes X49.here hx rfl (pc0 := 195) (pc' := 202) rfl (hb hby at_195) rfl (tlt hc195_59).1 (by decide) (by decide) k)
        refine own_go (T' := T49) (f' := (mkF m 204 #[.val (.long xa), .second, .val (.int xb), .val (.int xc), .val (.int xd), .val (.int (own_v0_6 xc)), .val (.int (own_v0_22 xc xd)), .val (.ref b1), .val (.int (own_v0_128 xa xb xc xd)), .val (.int ((own_v0_22 xc xd) - (own_v0_6 xc))), .val (.int (own_v0_144_s0 xa xb xc)), .unset] [(.int (own_v0_144_s0 xa xb xc))])) ?_ (fun _ k => XS.iload X49.here hx rfl (hb hby at_202) rfl  k)
        refine own_go (T' := T49) (f' := (mkF m 206 #[.val (.long xa), .second, .val (.int xb), .val (.int xc), .val (.int xd), .val (.int (own_v0_6 xc)), .val (.int (own_v0_22 xc xd)), .val (.ref b1), .val (.int (own_v0_128 xa xb xc xd)), .val (.int ((own_v0_22 xc xd) - (own_v0_6 xc))), .val (.int (own_v0_144_s0 xa xb xc)), .unset] [(.int ((own_v0_22 xc xd) - (own_v0_6 xc))), (.int (own_v0_144_s0 xa xb xc))])) ?_ (fun _ k => XS.iload X49.here hx rfl (hb hby at_204) rfl  k)
        by_cases hc206_60 : (own_v0_144_s0 xa xb xc) < ((own_v0_22 xc xd) - (own_v0_6 xc))
        · refine own_go (T' := T49) (f' := (mkF m 213 #[.val (.long xa), .second, .val (.int xb), .val (.int xc), .val (.int xd), .val (.int (own_v0_6 xc)), .val (.int (own_v0_22 xc xd)), .val (.ref b1), .val (.int (own_v0_128 xa xb xc xd)), .val (.int ((own_v0_22 xc xd) - (own_v0_6 xc))), .val (.int (own_v0_144_s0 xa xb xc)), .unset] [])) ?_ (fun _ k => XS.icmpYes X49.here hx rfl (pc0 := 206) (pc' := 213) rfl (hb hby at_206) rfl (tlt hc206_60).1 (by decide) (by decide) k)
          refine own_go (T' := T49) (f' := (mkF m 214 #[.val (.long xa), .second, .val (.int xb), .val (.int xc), .val (.int xd), .val (.int (own_v0_6 xc)), .val (.int (own_v0_22 xc xd)), .val (.ref b1), .val (.int (own_v0_128 xa xb xc xd)), .val (.int ((own_v0_22 xc xd) - (own_v0_6 xc))), .val (.int (own_v0_144_s0 xa xb xc)), .unset] [(.int (0 : Int32))])) ?_ (fun _ k => XS.iconst X49.here hx rfl (hb hby at_213) k)
          have em61 : (own_v0_189_s0 xa xb xc xd) = (0 : Int32) := (Eq.trans (if_pos hc189_58) (Eq.trans (if_pos hc195_59) (if_pos hc206_60)))
          exact ⟨_, ⟨T49, _, (by rw [em61]), X49, e49, N49⟩, fun _ k => k⟩
        · refine own_go (T' := T49) (f' := (mkF m 209 #[.val (.long xa), .second, .val (.int xb), .val (.int xc), .val (.int xd), .val (.int (own_v0_6 xc)), .val (.int (own_v0_22 xc xd)), .val (.ref b1), .val (.int (own_v0_128 xa xb xc xd)), .val (.int ((own_v0_22 xc xd) - (own_v0_6 xc))), .val (.int (own_v0_144_s0 xa xb xc)), .unset] [])) ?_ (fun _ k => XS.icmpNo X49.here hx rfl (hb hby at_206) rfl (flt hc206_60).1 k)
          refine own_go (T' := T49) (f' := (mkF m 210 #[.val (.long xa), .second, .val (.int xb), .val (.int xc), .val (.int xd), .val (.int (own_v0_6 xc)), .val (.int (own_v0_22 xc xd)), .val (.ref b1), .val (.int (own_v0_128 xa xb xc xd)), .val (.int ((own_v0_22 xc xd) - (own_v0_6 xc))), .val (.int (own_v0_144_s0 xa xb xc)), .unset] [(.int (-1 : Int32))])) ?_ (fun _ k => XS.iconst X49.here hx rfl (hb hby at_209) k)
          refine own_go (T' := T49) (f' := (mkF m 214 #[.val (.long xa), .second, .val (.int xb), .val (.int xc), .val (.int xd), .val (.int (own_v0_6 xc)), .val (.int (own_v0_22 xc xd)), .val (.ref b1), .val (.int (own_v0_128 xa xb xc xd)), .val (.int ((own_v0_22 xc xd) - (own_v0_6 xc))), .val (.int (own_v0_144_s0 xa xb xc)), .unset] [(.int (-1 : Int32))])) ?_ (fun _ k => XS.goto X49.here hx rfl (pc0 := 210) (pc' := 214) rfl (hb hby at_210) (by decide) (by decide) k)
          have em62 : (own_v0_189_s0 xa xb xc xd) = (-1 : Int32) := (Eq.trans (if_pos hc189_58) (Eq.trans (if_pos hc195_59) (if_neg hc206_60)))
          exact ⟨_, ⟨T49, _, (by rw [em62]), X49, e49, N49⟩, fun _ k => k⟩
      · refine own_go (T' := T49) (f' := (mkF m 198 #[.val (.long xa), .second, .val (.int xb), .val (.int xc), .val (.int xd), .val (.int (own_v0_6 xc)), .val (.int (own_v0_22 xc xd)), .val (.ref b1), .val (.int (own_v0_128 xa xb xc xd)), .val (.int ((own_v0_22 xc xd) - (own_v0_6 xc))), .val (.int (own_v0_144_s0 xa xb xc)), .unset] [])) ?_ (fun _ k => XS.icmpNo X49.here hx rfl (hb hby at_195) rfl (flt hc195_59).1 k)
        refine own_go (T' := T49) (f' := (mkF m 199 #[.val (.long xa), .second, .val (.int xb), .val (.int xc), .val (.int xd), .val (.int (own_v0_6 xc)), .val (.int (own_v0_22 xc xd)), .val (.ref b1), .val (.int (own_v0_128 xa xb xc xd)), .val (.int ((own_v0_22 xc xd) - (own_v0_6 xc))), .val (.int (own_v0_144_s0 xa xb xc)), .unset] [(.int (3 : Int32))])) ?_ (fun _ k => XS.iconst X49.here hx rfl (hb hby at_198) k)
        refine own_go (T' := T49) (f' := (mkF m 214 #[.val (.long xa), .second, .val (.int xb), .val (.int xc), .val (.int xd), .val (.int (own_v0_6 xc)), .val (.int (own_v0_22 xc xd)), .val (.ref b1), .val (.int (own_v0_128 xa xb xc xd)), .val (.int ((own_v0_22 xc xd) - (own_v0_6 xc))), .val (.int (own_v0_144_s0 xa xb xc)), .unset] [(.int (3 : Int32))])) ?_ (fun _ k => XS.goto X49.here hx rfl (pc0 := 199) (pc' := 214) rfl (hb hby at_199) (by decide) (by decide) k)
        have em63 : (own_v0_189_s0 xa xb xc xd) = (3 : Int32) := (Eq.trans (if_pos hc189_58) (if_neg hc195_59))
        exact ⟨_, ⟨T49, _, (by rw [em63]), X49, e49, N49⟩, fun _ k => k⟩
    · refine own_go (T' := T49) (f' := (mkF m 202 #[.val (.long xa), .second, .val (.int xb), .val (.int xc), .val (.int xd), .val (.int (own_v0_6 xc)), .val (.int (own_v0_22 xc xd)), .val (.ref b1), .val (.int (own_v0_128 xa xb xc xd)), .val (.int ((own_v0_22 xc xd) - (own_v0_6 xc))), .val (.int (own_v0_144_s0 xa xb xc)), .unset] [])) ?_ (fun _ k => XS.icmpYes X49.here hx rfl (pc0 := 189) (pc' := 202) rfl (hb hby at_189) rfl (feq hc189_58).2 (by decide) (by decide) k)
      refine own_go (T' := T49) (f' := (mkF m 204 #[.val (.long xa), .second, .val (.int xb), .val (.int xc), .val (.int xd), .val (.int (own_v0_6 xc)), .val (.int (own_v0_22 xc xd)), .val (.ref b1), .val (.int (own_v0_128 xa xb xc xd)), .val (.int ((own_v0_22 xc xd) - (own_v0_6 xc))), .val (.int (own_v0_144_s0 xa xb xc)), .unset] [(.int (own_v0_144_s0 xa xb xc))])) ?_ (fun _ k => XS.iload X49.here hx rfl (hb hby at_202) rfl  k)
      refine own_go (T' := T49) (f' := (mkF m 206 #[.val (.long xa), .second, .val (.int xb), .val (.int xc), .val (.int xd), .val (.int (own_v0_6 xc)), .val (.int (own_v0_22 xc xd)), .val (.ref b1), .val (.int (own_v0_128 xa xb xc xd)), .val (.int ((own_v0_22 xc xd) - (own_v0_6 xc))), .val (.int (own_v0_144_s0 xa xb xc)), .unset] [(.int ((own_v0_22 xc xd) - (own_v0_6 xc))), (.int (own_v0_144_s0 xa xb xc))])) ?_ (fun _ k => XS.iload X49.here hx rfl (hb hby at_204) rfl  k)
      by_cases hc206_64 : (own_v0_144_s0 xa xb xc) < ((own_v0_22 xc xd) - (own_v0_6 xc))
      · refine own_go (T' := T49) (f' := (mkF m 213 #[.val (.long xa), .second, .val (.int xb), .val (.int xc), .val (.int xd), .val (.int (own_v0_6 xc)), .val (.int (own_v0_22 xc xd)), .val (.ref b1), .val (.int (own_v0_128 xa xb xc xd)), .val (.int ((own_v0_22 xc xd) - (own_v0_6 xc))), .val (.int (own_v0_144_s0 xa xb xc)), .unset] [])) ?_ (fun _ k => XS.icmpYes X49.here hx rfl (pc0 := 206) (pc' := 213) rfl (hb hby at_206) rfl (tlt hc206_64).1 (by decide) (by decide) k)
        refine own_go (T' := T49) (f' := (mkF m 214 #[.val (.long xa), .second, .val (.int xb), .val (.int xc), .val (.int xd), .val (.int (own_v0_6 xc)), .val (.int (own_v0_22 xc xd)), .val (.ref b1), .val (.int (own_v0_128 xa xb xc xd)), .val (.int ((own_v0_22 xc xd) - (own_v0_6 xc))), .val (.int (own_v0_144_s0 xa xb xc)), .unset] [(.int (0 : Int32))])) ?_ (fun _ k => XS.iconst X49.here hx rfl (hb hby at_213) k)
        have em65 : (own_v0_189_s0 xa xb xc xd) = (0 : Int32) := (Eq.trans (if_neg hc189_58) (if_pos hc206_64))
        exact ⟨_, ⟨T49, _, (by rw [em65]), X49, e49, N49⟩, fun _ k => k⟩
      · refine own_go (T' := T49) (f' := (mkF m 209 #[.val (.long xa), .second, .val (.int xb), .val (.int xc), .val (.int xd), .val (.int (own_v0_6 xc)), .val (.int (own_v0_22 xc xd)), .val (.ref b1), .val (.int (own_v0_128 xa xb xc xd)), .val (.int ((own_v0_22 xc xd) - (own_v0_6 xc))), .val (.int (own_v0_144_s0 xa xb xc)), .unset] [])) ?_ (fun _ k => XS.icmpNo X49.here hx rfl (hb hby at_206) rfl (flt hc206_64).1 k)
        refine own_go (T' := T49) (f' := (mkF m 210 #[.val (.long xa), .second, .val (.int xb), .val (.int xc), .val (.int xd), .val (.int (own_v0_6 xc)), .val (.int (own_v0_22 xc xd)), .val (.ref b1), .val (.int (own_v0_128 xa xb xc xd)), .val (.int ((own_v0_22 xc xd) - (own_v0_6 xc))), .val (.int (own_v0_144_s0 xa xb xc)), .unset] [(.int (-1 : Int32))])) ?_ (fun _ k => XS.iconst X49.here hx rfl (hb hby at_209) k)
        refine own_go (T' := T49) (f' := (mkF m 214 #[.val (.long xa), .second, .val (.int xb), .val (.int xc), .val (.int xd), .val (.int (own_v0_6 xc)), .val (.int (own_v0_22 xc xd)), .val (.ref b1), .val (.int (own_v0_128 xa xb xc xd)), .val (.int ((own_v0_22 xc xd) - (own_v0_6 xc))), .val (.int (own_v0_144_s0 xa xb xc)), .unset] [(.int (-1 : Int32))])) ?_ (fun _ k => XS.goto X49.here hx rfl (pc0 := 210) (pc' := 214) rfl (hb hby at_210) (by decide) (by decide) k)
        have em66 : (own_v0_189_s0 xa xb xc xd) = (-1 : Int32) := (Eq.trans (if_neg hc189_58) (if_neg hc206_64))
        exact ⟨_, ⟨T49, _, (by rw [em66]), X49, e49, N49⟩, fun _ k => k⟩
  refine own_go (T' := T57) (f' := (mkF m 214 #[.val (.long xa), .second, .val (.int xb), .val (.int xc), .val (.int xd), .val (.int (own_v0_6 xc)), .val (.int (own_v0_22 xc xd)), .val (.ref b1), .val (.int (own_v0_128 xa xb xc xd)), .val (.int ((own_v0_22 xc xd) - (own_v0_6 xc))), .val (.int (own_v0_144_s0 xa xb xc)), .unset] [(.int (own_v0_189_s0 xa xb xc xd))])) ?_ (mg57)
  refine own_go (T' := T57) (f' := (mkF m 216 #[.val (.long xa), .second, .val (.int xb), .val (.int xc), .val (.int xd), .val (.int (own_v0_6 xc)), .val (.int (own_v0_22 xc xd)), .val (.ref b1), .val (.int (own_v0_128 xa xb xc xd)), .val (.int ((own_v0_22 xc xd) - (own_v0_6 xc))), .val (.int (own_v0_144_s0 xa xb xc)), .val (.int (own_v0_189_s0 xa xb xc xd))] [])) ?_ (fun _ k => XS.istore X57.here hx rfl (hb hby at_214) rfl (l' := #[.val (.long xa), .second, .val (.int xb), .val (.int xc), .val (.int xd), .val (.int (own_v0_6 xc)), .val (.int (own_v0_22 xc xd)), .val (.ref b1), .val (.int (own_v0_128 xa xb xc xd)), .val (.int ((own_v0_22 xc xd) - (own_v0_6 xc))), .val (.int (own_v0_144_s0 xa xb xc)), .val (.int (own_v0_189_s0 xa xb xc xd))]) rfl k)
  refine own_go (T' := T57) (f' := (mkF m 218 #[.val (.long xa), .second, .val (.int xb), .val (.int xc), .val (.int xd), .val (.int (own_v0_6 xc)), .val (.int (own_v0_22 xc xd)), .val (.ref b1), .val (.int (own_v0_128 xa xb xc xd)), .val (.int ((own_v0_22 xc xd) - (own_v0_6 xc))), .val (.int (own_v0_144_s0 xa xb xc)), .val (.int (own_v0_189_s0 xa xb xc xd))] [(.int (own_v0_128 xa xb xc xd))])) ?_ (fun _ k => XS.iload X57.here hx rfl (hb hby at_216) rfl  k)
  refine own_go (T' := T57) (f' := (mkF m 220 #[.val (.long xa), .second, .val (.int xb), .val (.int xc), .val (.int xd), .val (.int (own_v0_6 xc)), .val (.int (own_v0_22 xc xd)), .val (.ref b1), .val (.int (own_v0_128 xa xb xc xd)), .val (.int ((own_v0_22 xc xd) - (own_v0_6 xc))), .val (.int (own_v0_144_s0 xa xb xc)), .val (.int (own_v0_189_s0 xa xb xc xd))] [(.int (own_v0_189_s0 xa xb xc xd)), (.int (own_v0_128 xa xb xc xd))])) ?_ (fun _ k => XS.iload X57.here hx rfl (hb hby at_218) rfl  k)
  obtain ⟨_, ⟨T67, L67, rfl, X67, e67, N67⟩, mg67⟩ : own_Goes p.tables e below (fun uu => ∃ (T' : State) (L' : List Loc), uu = T'.setTop (mkF m 228 #[.val (.long xa), .second, .val (.int xb), .val (.int xc), .val (.int xd), .val (.int (own_v0_6 xc)), .val (.int (own_v0_22 xc xd)), .val (.ref b1), .val (.int (own_v0_128 xa xb xc xd)), .val (.int ((own_v0_22 xc xd) - (own_v0_6 xc))), .val (.int (own_v0_144_s0 xa xb xc)), .val (.int (own_v0_189_s0 xa xb xc xd))] [(.int (own_v0_220_s0 xa xb xc xd))]) ∧ Stand p l e room_1 s m #[(.long xa), (.int xb), (.int xc), (.int xd)] below meth c T' L' 1 5 ∧ T'.heap = h40 ∧ Fr n0 L') T57 (mkF m 220 #[.val (.long xa), .second, .val (.int xb), .val (.int xc), .val (.int xd), .val (.int (own_v0_6 xc)), .val (.int (own_v0_22 xc xd)), .val (.ref b1), .val (.int (own_v0_128 xa xb xc xd)), .val (.int ((own_v0_22 xc xd) - (own_v0_6 xc))), .val (.int (own_v0_144_s0 xa xb xc)), .val (.int (own_v0_189_s0 xa xb xc xd))] [(.int (own_v0_189_s0 xa xb xc xd)), (.int (own_v0_128 xa xb xc xd))]) := by
    by_cases hc220_68 : (own_v0_128 xa xb xc xd) = (own_v0_189_s0 xa xb xc xd)
    · refine own_go (T' := T57) (f' := (mkF m 223 #[.val (.long xa), .second, .val (.int xb), .val (.int xc), .val (.int xd), .val (.int (own_v0_6 xc)), .val (.int (own_v0_22 xc xd)), .val (.ref b1), .val (.int (own_v0_128 xa xb xc xd)), .val (.int ((own_v0_22 xc xd) - (own_v0_6 xc))), .val (.int (own_v0_144_s0 xa xb xc)), .val (.int (own_v0_189_s0 xa xb xc xd))] [])) ?_ (fun _ k => XS.icmpNo X57.here hx rfl (hb hby at_220) rfl (teq hc220_68).2 k)
      refine own_go (T' := T57) (f' := (mkF m 224 #[.val (.long xa), .second, .val (.int xb), .val (.int xc), .val (.int xd), .val (.int (own_v0_6 xc)), .val (.int (own_v0_22 xc xd)), .val (.ref b1), .val (.int (own_v0_128 xa xb xc xd)), .val (.int ((own_v0_22 xc xd) - (own_v0_6 xc))), .val (.int (own_v0_144_s0 xa xb xc)), .val (.int (own_v0_189_s0 xa xb xc xd))] [(.int (1 : Int32))])) ?_ (fun _ k => XS.iconst X57.here hx rfl (hb hby at_223) k)
      refine own_go (T' := T57) (f' := (mkF m 228 #[.val (.long xa), .second, .val (.int xb), .val (.int xc), .val (.int xd), .val (.int (own_v0_6 xc)), .val (.int (own_v0_22 xc xd)), .val (.ref b1), .val (.int (own_v0_128 xa xb xc xd)), .val (.int ((own_v0_22 xc xd) - (own_v0_6 xc))), .val (.int (own_v0_144_s0 xa xb xc)), .val (.int (own_v0_189_s0 xa xb xc xd))] [(.int (1 : Int32))])) ?_ (fun _ k => XS.goto X57.here hx rfl (pc0 := 224) (pc' := 228) rfl (hb hby at_224) (by decide) (by decide) k)
      have em69 : (own_v0_220_s0 xa xb xc xd) = (1 : Int32) := (if_pos hc220_68)
      exact ⟨_, ⟨T57, _, (by rw [em69]), X57, e57, N57⟩, fun _ k => k⟩
    · refine own_go (T' := T57) (f' := (mkF m 227 #[.val (.long xa), .second, .val (.int xb), .val (.int xc), .val (.int xd), .val (.int (own_v0_6 xc)), .val (.int (own_v0_22 xc xd)), .val (.ref b1), .val (.int (own_v0_128 xa xb xc xd)), .val (.int ((own_v0_22 xc xd) - (own_v0_6 xc))), .val (.int (own_v0_144_s0 xa xb xc)), .val (.int (own_v0_189_s0 xa xb xc xd))] [])) ?_ (fun _ k => XS.icmpYes X57.here hx rfl (pc0 := 220) (pc' := 227) rfl (hb hby at_220) rfl (feq hc220_68).2 (by decide) (by decide) k)
      refine own_go (T' := T57) (f' := (mkF m 228 #[.val (.long xa), .second, .val (.int xb), .val (.int xc), .val (.int xd), .val (.int (own_v0_6 xc)), .val (.int (own_v0_22 xc xd)), .val (.ref b1), .val (.int (own_v0_128 xa xb xc xd)), .val (.int ((own_v0_22 xc xd) - (own_v0_6 xc))), .val (.int (own_v0_144_s0 xa xb xc)), .val (.int (own_v0_189_s0 xa xb xc xd))] [(.int (0 : Int32))])) ?_ (fun _ k => XS.iconst X57.here hx rfl (hb hby at_227) k)
      have em70 : (own_v0_220_s0 xa xb xc xd) = (0 : Int32) := (if_neg hc220_68)
      exact ⟨_, ⟨T57, _, (by rw [em70]), X57, e57, N57⟩, fun _ k => k⟩
  refine own_go (T' := T67) (f' := (mkF m 228 #[.val (.long xa), .second, .val (.int xb), .val (.int xc), .val (.int xd), .val (.int (own_v0_6 xc)), .val (.int (own_v0_22 xc xd)), .val (.ref b1), .val (.int (own_v0_128 xa xb xc xd)), .val (.int ((own_v0_22 xc xd) - (own_v0_6 xc))), .val (.int (own_v0_144_s0 xa xb xc)), .val (.int (own_v0_189_s0 xa xb xc xd))] [(.int (own_v0_220_s0 xa xb xc xd))])) ?_ (mg67)
  obtain ⟨fs71, hr71, hrun71, hended71, hW71, hsame71⟩ := X67.leave (v := some (.int (own_v0_220_s0 xa xb xc xd))) (fun h => by rw [Bd.returns] at h; cases h)
  refine ⟨_, ⟨_, hrun71, hended71, _, _, rfl, ?_, ⟨_, rfl⟩, hW71, hsame71.mono (by decide) (by decide)⟩, fun _ k => (own_retZ X67 hx Bd.returns (own_b0_220_s0 xa xb xc xd) (hb hby at_228) hr71).trans k⟩
  show own_Q0 Z xa xb xc xd os h0 n0 _ T67.heap _
  rw [e67]
  exact ⟨rfl, N67⟩
theorem own_bom {s : State} {args : Array Value} (hn : narrow_1.value args s none s [] = some true) (wi : (Jvm.Cond.initialized "com/example/monitorgen/monitorgen/trace/Utf8Text").before args s = true) (wl : (Jvm.Cond.laysStatic "com/example/monitorgen/monitorgen/trace/Utf8Text" "BYTE_ORDER_MARK" "[B").before args s = true) (hf : Fit s) :
    ∃ os, Sta s s.heap "com/example/monitorgen/monitorgen/trace/Utf8Text" "BYTE_ORDER_MARK" "[B" (.ref os) ∧ own_AI s s.heap os .byte (3 : Int32) [(-17 : Int32), (-69 : Int32), (-65 : Int32)] := by
  obtain ⟨n1, hn⟩ := and_e hn
  obtain ⟨n2, hn⟩ := and_e hn
  obtain ⟨n3, hn⟩ := and_e hn
  obtain ⟨n4, n5⟩ := and_e hn
  obtain ⟨os, ev⟩ := arr_v n1
  obtain ⟨cl, A⟩ := Arr.start ev n1
  obtain ⟨q, e⟩ := own_len_of ev A n2
  exact ⟨os, Sta.start ev (Or.inr ⟨wi, wl⟩), rfl, cl.cls, Arv.start (vs := [.int (-17), .int (-69), .int (-65)]) hf A q e (by decide) rfl ⟨own_el_of ev A n3, own_el_of ev A n4, own_el_of ev A n5, trivial⟩⟩
theorem own_core (pl lm : Int32) (LL : List Int32) (h1 : 0 ≤ pl.toInt) (h2 : pl.toInt < 3) (h3 : pl.toInt ≤ lm.toInt) (h4 : lm.toInt ≤ 5) :
    own_f1 pl lm LL = (let mm := (if (LL.getD pl.toNatClampNeg 0) = (-17 : Int32) then (if (LL.getD (pl + (1 : Int32)).toNatClampNeg 0) = (-69 : Int32) then (if (LL.getD (pl + (2 : Int32)).toNatClampNeg 0) = (-65 : Int32) then (3 : Int32) else (2 : Int32)) else (1 : Int32)) else (0 : Int32)); if mm = (3 : Int32) then (if (lm - pl) < (3 : Int32) then (if mm < (lm - pl) then (0 : Int32) else (-1 : Int32)) else (3 : Int32)) else (if mm < (lm - pl) then (0 : Int32) else (-1 : Int32))) := by
  have e0 : (0 : Int32).toInt = 0 := rfl
  have e1 : (1 : Int32).toInt = 1 := rfl
  have e2 : (2 : Int32).toInt = 2 := rfl
  have e3 : (3 : Int32).toInt = 3 := rfl
  have a0 : pl + (0 : Int32) = pl := by simp
  have a1 : (pl + (1 : Int32)).toInt = pl.toInt + 1 := by rw [own_add_ok (by omega) (by omega), e1]
  have a2 : (pl + (2 : Int32)).toInt = pl.toInt + 2 := by rw [own_add_ok (by omega) (by omega), e2]
  have s1 : (lm - pl).toInt = lm.toInt - pl.toInt := own_sub_ok (by omega) (by omega)
  unfold own_f1
  rw [a0]
  generalize LL.getD pl.toNatClampNeg 0 = b0
  generalize LL.getD (pl + (1 : Int32)).toNatClampNeg 0 = b1
  generalize LL.getD (pl + (2 : Int32)).toNatClampNeg 0 = b2
  have q0 : (pl = lm) ↔ pl.toInt = lm.toInt := own_eq32
  have q1 : (pl + (1 : Int32) = lm) ↔ pl.toInt + 1 = lm.toInt := by rw [own_eq32, a1]
  have q2 : (pl + (2 : Int32) = lm) ↔ pl.toInt + 2 = lm.toInt := by rw [own_eq32, a2]
  by_cases k0 : b0 = (-17 : Int32) <;> by_cases k1 : b1 = (-69 : Int32) <;> by_cases k2 : b2 = (-65 : Int32) <;>
    simp only [k0, k1, k2, if_true, if_false, q0, q1, q2, own_lt32, s1, e0, e1, e2, e3, show ((0 : Int32) = 3) = False from by decide, show ((1 : Int32) = 3) = False from by decide, show ((2 : Int32) = 3) = False from by decide] <;>
    (repeat' split) <;> first | rfl | (exfalso; omega)
theorem own_lim (xc xd : Int32) : 0 ≤ (own_v0_6 xc).toInt ∧ (own_v0_6 xc).toInt < 3 ∧ (own_v0_6 xc).toInt ≤ (own_v0_22 xc xd).toInt ∧ (own_v0_22 xc xd).toInt ≤ 5 := by
  have e6 : (6 : Int32).toInt = 6 := rfl
  have p := own_pl3 xc
  rw [own_lt32, own_lt32, show (0 : Int32).toInt = 0 from rfl, show (3 : Int32).toInt = 3 from rfl] at p
  have s1 : ((6 : Int32) - (own_v0_6 xc)).toInt = 6 - (own_v0_6 xc).toInt := by rw [own_sub_ok (by omega) (by omega), e6]
  have r := own_rem31 xd ((6 : Int32) - (own_v0_6 xc)) (by omega)
  have m1 := Int.emod_nonneg (xd.toInt % 2147483648) (b := ((6 : Int32) - (own_v0_6 xc)).toInt) (by omega)
  have m2 := Int.emod_lt_of_pos (xd.toInt % 2147483648) (b := ((6 : Int32) - (own_v0_6 xc)).toInt) (by omega)
  have a : (own_v0_22 xc xd).toInt = (own_v0_6 xc).toInt + (own_irem (xd &&& (2147483647 : Int32)) ((6 : Int32) - (own_v0_6 xc))).toInt := own_add_ok (by omega) (by omega)
  omega
theorem own_plain (xa : Int64) (xb xc xd : Int32) : (own_f0 xa xb xc xd) = 1 := by
  obtain ⟨h1, h2, h3, h4⟩ := own_lim xc xd
  exact if_pos (own_core (own_v0_6 xc) (own_v0_22 xc xd) (own_v0_107_l2 xa xb xc) h1 h2 h3 h4)

set_option maxRecDepth 65536 in
set_option maxHeartbeats 40000000 in
theorem comes_1 {Post : Tables → Env → Array Value → State → Outcome → State → Prop} (hpost : ∀ tb e args s v u, (limb_1_1.after args s (.returned v) u = true ∧ limb_1_2.after args s (.returned v) u = true ∧ True) → FrameEnd s (.returned v) u (Jvm.fieldLocs frame_1_writes args s ++ Jvm.arrayLocs frame_1_arrays args s ++ Jvm.staticLocs frame_1_statics s) 16 128 → Post tb e args s (.returned v) u) :
    ArmFor flags0 classFile x code maxLocals ret World_1 tables_1 room_1 Calls_1 rest_1 Pre_1 Post := by
  intro l hfl _ _ p e ha hc hk s m args below hf hA hF happ hP
  obtain ⟨hcalls, hrest, hpre⟩ := hP
  obtain ⟨-, -, -, hnamed, -, -, -, hat⟩ := (Spec.applies_iff hf).mp happ
  obtain ⟨hg, hn⟩ := and_e (Cond.before_iff.mp (show (Jvm.Cond.and given_1 narrow_1).before args s = true from hpre))
  obtain ⟨gg1, gg2⟩ := and_e hg
  obtain ⟨gg3, gg4⟩ := and_e gg2
  obtain ⟨gg5, gg6⟩ := and_e gg4
  obtain ⟨gg7, gg8⟩ := and_e gg6
  obtain ⟨w0, w1, w2, w3, rfl⟩ : ∃ w0 w1 w2 w3 : Value, args = #[w0, w1, w2, w3] := by
    have hs : args.size = 4 := by simpa [Cond.value, given_1] using gg1
    obtain ⟨L⟩ := args
    match L, hs with
    | [w0, w1, w2, w3], _ => exact ⟨w0, w1, w2, w3, rfl⟩
  have hw := fun d (hd : d ∈ tables_1) => atoms_spec (ws := Jvm.Cond.code x code maxLocals ret :: tables_1) hat d (List.mem_cons_of_mem _ hd)
  have hfit : Fit s := fun {y c} hc i hi => by
    obtain ⟨ha, rfl⟩ := Array.getElem?_eq_some_iff.mp hc
    have q := List.all_eq_true.mp ((Array.all_eq_true_iff_forall_mem.mp hF) _ (Array.getElem_mem ha)) i (List.mem_range.mpr hi)
    simpa [Array.getElem?_eq_getElem hi] using q
  obtain ⟨i0, ei0⟩ := isL_v gg3
  obtain rfl : w0 = (.long i0) := Option.some.inj ei0
  obtain ⟨i1, ei1⟩ := is_v gg5
  obtain rfl : w1 = (.int i1) := Option.some.inj ei1
  obtain ⟨i2, ei2⟩ := is_v gg7
  obtain rfl : w2 = (.int i2) := Option.some.inj ei2
  obtain ⟨i3, ei3⟩ := is_v gg8
  obtain rfl : w3 = (.int i3) := Option.some.inj ei3
  obtain ⟨os, Sb, Ab⟩ := own_bom hn (hw _ (List.mem_of_getElem? (i := 4) rfl)) (hw _ (List.mem_of_getElem? (i := 7) rfl)) hfit
  obtain ⟨n, o, h1, h2, h3, _, L, rfl, ⟨rv, N⟩, hq⟩ := own_rm0 l s _ hw tables_1 i0 i1 i2 i3 os s.heap s.heap.size (Nat.le_refl _) Sb Ab p e ha hc hk s m _ below hf ((Spec.applies_iff_loose hf).mp happ).1 ⟨rfl, State.Warmed39.refl s, rfl⟩ trivial
  rw [own_plain] at rv
  subst rv
  refine ⟨n, _, h1, h2, h3, hpost _ _ _ _ _ _ ⟨Cond.after_iff.mpr rfl, Cond.after_iff.mpr (eq_i res_at (Term.int_eval (1)) rfl), trivial⟩ ⟨hq.1, hq.2.1, (hq.2.2.sift fun y hy => Or.inr (N y hy)).mono (by decide) (by decide)⟩⟩
theorem main_1_1 : Claimed_1_1 := comes_1 fun _ _ _ _ _ _ h hF => ⟨h.1, hF⟩
theorem main_1_2 : Claimed_1_2 := comes_1 fun _ _ _ _ _ _ h hF => ⟨h.2.1, hF⟩
end Jvm.Pilot.@@N@@
namespace Jvm.Pilot.@@N@@
open Jvm Jvm.ClassFile Sem Op Lib Jvm.Free Jvm.Stand Jvm.Pilot.@@N@@.Jvm.D
/-! MADE BY PROGRAM (witnessworld.py) out of the Statement's table words and the real class files: 9 classes; the members and pool entries that the words name. The judged class is class 1, her method 1. -/
namespace start1
open Jvm.ClassFile
def u (s : String) : CpInfo := .utf8 (stringToUtf16 s)
/-- a pool by its gaps: so many unusable entries, then the entry; so many at the end -/
def gap : Nat → List CpInfo → List CpInfo
  | 0, r => r
  | n + 1, r => .unusable :: gap n r
def poolList (es : List (Nat × CpInfo)) (last : Nat) : List CpInfo := es.foldr (fun e r => gap e.1 (e.2 :: r)) (gap last [])
def pool (es : List (Nat × CpInfo)) (last : Nat) : Array CpInfo := ⟨poolList es last⟩
def fileOf (pool : Array CpInfo) (this : Nat) (attrs : Array Attribute := #[]) (ms : Array MethodInfo := #[]) (fl : Nat := 33) (sup : Nat := 0) (ifs : Array Nat := #[]) (fds : Array FieldInfo := #[]) : ClassFile where
  minorVersion := 0
  majorVersion := 65
  constantPool := pool
  accessFlags := fl
  thisClass := this
  superClass := sup
  interfaces := ifs
  fields := fds
  methods := ms
  attributes := attrs
def plain (name : String) (sup : Option ClassId) : Class where
  name := name
  kind := .ordinary
  loader := none
  accessFlags := 33
  super := sup
  interfaces := #[]
  cf := none
  fields := #[]
  methods := #[]
  instanceTypes := #[]
  staticTypes := #[]
  resolved := #[]
  callSites := []
  init := .initialized
  statics := none
  mirror := none

def pool0 : Array CpInfo := pool [(5, u "<init>"), (0, u "()V"), (1, .class_ 10), (1, u "java/lang/Object")] 113

def k0m0 : Method := { name := "<init>", desc := "()V", sig := { parameters := [], returnType := none }, accessFlags := 1, code := none }
/-- java/lang/Object -/
def k0 : Class := { plain "java/lang/Object" none with
  accessFlags := 33
  interfaces := #[]
  cf := some (fileOf pool0 8 #[] #[{ accessFlags := 1, nameIndex := 5, descriptorIndex := 6, attributes := #[] }] 33 0 #[] #[])
  fields := #[]
  methods := #[k0m0]
  instanceTypes := #[]
  staticTypes := #[]
  resolved := Array.replicate 124 none
  statics := none }

def pool1 : Array CpInfo := pool [(2, .class_ 4), (1, u "java/lang/Object"), (0, u "<init>"), (0, u "()V"), (0, .integer 2147483647), (0, .methodref 9 10), (0, .class_ 11), (0, .nameAndType 12 13), (0, u "com/example/monitorgen/monitorgen/trace/Utf8Text"), (0, u "byteOrderMarkLength"), (0, u "([BII)I"), (0, .class_ 15), (0, u "com/example/monitorgen/monitorgen/trace/Utf8TextByteOrderMarkLengthPinLaw"), (2, u "law"), (0, u "(JIII)Z")] 5

def k1m0 : Method := { name := "<init>", desc := "()V", sig := { parameters := [], returnType := none }, accessFlags := 1, code := none }
def k1c1 : Code := { maxStack := 5, maxLocals := 12, code := code, exceptionTable := #[], attributes := #[] }
def k1m1 : Method := { name := "law", desc := "(JIII)Z", sig := { parameters := [.long, .int, .int, .int], returnType := some .boolean }, accessFlags := 9, code := some k1c1 }
/-- com/example/monitorgen/monitorgen/trace/Utf8TextByteOrderMarkLengthPinLaw -/
def k1 : Class := { plain "com/example/monitorgen/monitorgen/trace/Utf8TextByteOrderMarkLengthPinLaw" (some 0) with
  accessFlags := 49
  interfaces := #[]
  cf := some (fileOf pool1 14 #[] #[{ accessFlags := 1, nameIndex := 5, descriptorIndex := 6, attributes := #[] }, { accessFlags := 9, nameIndex := 18, descriptorIndex := 19, attributes := #[] }] 49 2 #[] #[])
  fields := #[]
  methods := #[k1m0, k1m1]
  instanceTypes := #[]
  staticTypes := #[]
  resolved := Array.replicate 25 none
  statics := none }

def pool2 : Array CpInfo := pool [(2, .class_ 4), (1, u "java/lang/Object"), (30, .class_ 37), (1, u "com/example/monitorgen/monitorgen/trace/Utf8Text"), (0, u "_decoder"), (0, u "Ljava/nio/charset/CharsetDecoder;"), (6, u "_encoder"), (0, u "Ljava/nio/charset/CharsetEncoder;"), (8, u "_decoded"), (0, u "Ljava/nio/CharBuffer;"), (2, u "_alphabet"), (0, u "Lcom/example/monitorgen/monitorgen/property/Alphabet;"), (8, u "_longest"), (0, u "I"), (7, u "_encoded"), (0, u "Ljava/nio/ByteBuffer;"), (3, u "([BII)I"), (47, .fieldref 35 133), (0, .nameAndType 134 135), (0, u "BYTE_ORDER_MARK"), (0, u "[B"), (8, u "LONGS"), (0, u "Ljava/lang/invoke/VarHandle;"), (16, u "_viewed"), (6, u "_view"), (38, u "LOW_BITS"), (0, u "J"), (1, u "HIGH_BITS"), (10, u "byteOrderMarkLength")] 7

def k2c0 : Code := { maxStack := 3, maxLocals := 4, code := prog_75_method_5_code, exceptionTable := #[], attributes := #[] }
def k2m0 : Method := { name := "byteOrderMarkLength", desc := "([BII)I", sig := { parameters := [(.array .byte), .int, .int], returnType := some .int }, accessFlags := 8, code := some k2c0 }
/-- com/example/monitorgen/monitorgen/trace/Utf8Text -/
def k2 : Class := { plain "com/example/monitorgen/monitorgen/trace/Utf8Text" (some 0) with
  accessFlags := 48
  interfaces := #[]
  cf := some (fileOf pool2 35 #[] #[{ accessFlags := 8, nameIndex := 222, descriptorIndex := 84, attributes := #[] }] 48 2 #[] #[{ accessFlags := 24, nameIndex := 144, descriptorIndex := 145, attributes := #[] }, { accessFlags := 24, nameIndex := 208, descriptorIndex := 209, attributes := #[] }, { accessFlags := 24, nameIndex := 211, descriptorIndex := 209, attributes := #[] }, { accessFlags := 26, nameIndex := 134, descriptorIndex := 135, attributes := #[] }, { accessFlags := 18, nameIndex := 60, descriptorIndex := 61, attributes := #[] }, { accessFlags := 18, nameIndex := 70, descriptorIndex := 71, attributes := #[] }, { accessFlags := 18, nameIndex := 38, descriptorIndex := 39, attributes := #[] }, { accessFlags := 18, nameIndex := 46, descriptorIndex := 47, attributes := #[] }, { accessFlags := 2, nameIndex := 162, descriptorIndex := 135, attributes := #[] }, { accessFlags := 2, nameIndex := 169, descriptorIndex := 80, attributes := #[] }, { accessFlags := 2, nameIndex := 56, descriptorIndex := 57, attributes := #[] }, { accessFlags := 18, nameIndex := 79, descriptorIndex := 80, attributes := #[] }])
  fields := #[{ name := "LONGS", type := (.object "java/lang/invoke/VarHandle"), accessFlags := 24, slot := 0, constantValue := 0 }, { name := "LOW_BITS", type := .long, accessFlags := 24, slot := 1, constantValue := 0 }, { name := "HIGH_BITS", type := .long, accessFlags := 24, slot := 2, constantValue := 0 }, { name := "BYTE_ORDER_MARK", type := (.array .byte), accessFlags := 26, slot := 3, constantValue := 0 }, { name := "_alphabet", type := (.object "com/example/monitorgen/monitorgen/property/Alphabet"), accessFlags := 18, slot := 0, constantValue := 0 }, { name := "_longest", type := .int, accessFlags := 18, slot := 1, constantValue := 0 }, { name := "_decoder", type := (.object "java/nio/charset/CharsetDecoder"), accessFlags := 18, slot := 2, constantValue := 0 }, { name := "_encoder", type := (.object "java/nio/charset/CharsetEncoder"), accessFlags := 18, slot := 3, constantValue := 0 }, { name := "_viewed", type := (.array .byte), accessFlags := 2, slot := 4, constantValue := 0 }, { name := "_view", type := (.object "java/nio/ByteBuffer"), accessFlags := 2, slot := 5, constantValue := 0 }, { name := "_decoded", type := (.object "java/nio/CharBuffer"), accessFlags := 2, slot := 6, constantValue := 0 }, { name := "_encoded", type := (.object "java/nio/ByteBuffer"), accessFlags := 18, slot := 7, constantValue := 0 }]
  methods := #[k2m0]
  instanceTypes := #[(.object "com/example/monitorgen/monitorgen/property/Alphabet"), .int, (.object "java/nio/charset/CharsetDecoder"), (.object "java/nio/charset/CharsetEncoder"), (.array .byte), (.object "java/nio/ByteBuffer"), (.object "java/nio/CharBuffer"), (.object "java/nio/ByteBuffer")]
  staticTypes := #[(.object "java/lang/invoke/VarHandle"), .long, .long, (.array .byte)]
  resolved := Array.replicate 230 none
  statics := some 0 }

def pool3 : Array CpInfo := pool [(1, u "java/lang/Cloneable"), (0, .class_ 1), (0, u "java/lang/Object"), (0, .class_ 3)] 3

/-- java/lang/Cloneable -/
def k3 : Class := { plain "java/lang/Cloneable" (some 0) with
  accessFlags := 1537
  interfaces := #[]
  cf := some (fileOf pool3 2 #[] #[] 1537 4 #[] #[])
  fields := #[]
  methods := #[]
  instanceTypes := #[]
  staticTypes := #[]
  resolved := Array.replicate 8 none
  statics := none }

def pool4 : Array CpInfo := pool [(1, u "java/io/Serializable"), (0, .class_ 1), (0, u "java/lang/Object"), (0, .class_ 3)] 3

/-- java/io/Serializable -/
def k4 : Class := { plain "java/io/Serializable" (some 0) with
  accessFlags := 1537
  interfaces := #[]
  cf := some (fileOf pool4 2 #[] #[] 1537 4 #[] #[])
  fields := #[]
  methods := #[]
  instanceTypes := #[]
  staticTypes := #[]
  resolved := Array.replicate 8 none
  statics := none }

/-- the primitive byte -/
def k5 : Class := { plain "byte" none with kind := .primitive 'B', accessFlags := 0x411 }
/-- [B -/
def k6 : Class := { plain "[B" (some 0) with kind := .array 5 .byte, interfaces := #[3, 4], accessFlags := 1041 }

/-- the primitive int -/
def k7 : Class := { plain "int" none with kind := .primitive 'I', accessFlags := 0x411 }
/-- [I -/
def k8 : Class := { plain "[I" (some 0) with kind := .array 7 .int, interfaces := #[3, 4], accessFlags := 1041 }

def heap : Heap := #[{ cls := 2, slots := #[.null, .long 0, .long 0, .ref 1], vm := .statics 2 },
  { cls := 6, slots := #[.int (-17), .int (-69), .int (-65)], vm := .none }]
def classes : Array Class := #[k0, k1, k2, k3, k4, k5, k6, k7, k8]
def interned : List (Array UInt16 × Addr) := []
def slotsUsed : Nat := 7
def theMethod : MethodId := ⟨1, 1⟩
def args0 : Array Value := #[.long 77, .int 5, .int 1, .int 2]
def aboutOver (below : List Frame) : State where
  vm := { classes := classes, interned := interned.toArray }
  heap := heap
  slotsUsed := slotsUsed
  threads := #[{ frames := .invoking theMethod args0 :: below }]
def below0 : List Frame := [.native { method := ⟨0, 0⟩, args := #[] }]
def about1 : State := aboutOver below0
def p0 : Program := .bare "" "" ""
def e0 : Env := launch0.env 0 0 0
theorem w_frames : about1.frames = Frame.invoking theMethod args0 :: below0 := rfl
set_option maxRecDepth 65536 in
theorem w_args : argsFit about1.vm theMethod args0 = true := by decide +kernel
set_option maxRecDepth 65536 in
theorem w_heap : heapFits about1 = true := by decide +kernel
set_option maxRecDepth 65536 in
theorem w_runnable : about1.curStatus? = some .runnable := by decide +kernel
set_option maxRecDepth 65536 in
theorem w_alone : about1.alone = true := by decide +kernel
set_option maxRecDepth 65536 in
theorem w_named : about1.methodNamed? x = some theMethod := by decide +kernel
set_option maxRecDepth 65536 in
theorem w_hears : about1.hears theMethod below0 = true := by decide +kernel
set_option maxRecDepth 65536 in
theorem w_ripe : about1.ripe theMethod args0 below0 = true := by decide +kernel
theorem w_running : about1.status = .running := rfl
set_option maxRecDepth 65536 in
theorem w_room : about1.hasRoom e0.platform room_1 = true :=
  launch0.hasRoom_least _ room_1 (by decide +kernel) (by decide +kernel) (by decide +kernel) (by decide +kernel) (by decide +kernel) (by decide +kernel)
theorem allAtoms_all (ts : List Jvm.Cond) (a : Array Jvm.Value) (st : Jvm.State) : (allAtoms ts).before a st = ts.all (fun c => c.before a st) := by
  induction ts with
  | nil => rfl
  | cons c t ih =>
    show (Jvm.Cond.and c (allAtoms t)).before a st = _
    rw [Jvm.Cond.before_and, ih, List.all_cons]
def words1 : List Jvm.Cond := Jvm.Cond.code x code maxLocals ret :: tables_1
/-- a 'code' word, met by the world's own term for the bytes: nothing is compared byte by byte -/
theorem code_word {y : MethodName} {bytes : ByteArray} {mx : Nat} {rt : Option FieldType} {a : Array Value} {s : State} {m : MethodId} {meth : Method} {c : Code} (h1 : s.methodNamed? y = some m) (h2 : s.vm.method? m = some meth) (h3 : meth.code = some c) (h4 : c.code = bytes)
    (h5 : (c.maxLocals == mx && c.exceptionTable.isEmpty && decide (c.maxStack ≤ mostOperands) && decide (meth.sig.returnType = rt) && !meth.locks && decide (parseMethodDescriptor y.desc = some meth.sig)) = true) : (Jvm.Cond.code y bytes mx rt).before a s = true := by
  simp only [Bool.and_eq_true, beq_iff_eq, Bool.not_eq_true', decide_eq_true_eq] at h5
  obtain ⟨⟨⟨⟨⟨g1, g2⟩, g3⟩, g4⟩, g5⟩, g6⟩ := h5
  simp [Cond.before, Cond.holds, Cond.value, h1, h2, h3, h4, g1, g2, g3, g4, g5, g6]
def isCode : Jvm.Cond → Bool
  | .code _ _ _ _ => true
  | _ => false
theorem all_split {L : List Jvm.Cond} {P : Jvm.Cond → Bool} (h1 : L.all (fun c => isCode c || P c) = true) (h2 : ∀ c ∈ L.filter isCode, P c = true) : L.all P = true := by
  refine List.all_eq_true.mpr fun c hc => ?_
  have h := List.all_eq_true.mp h1 c hc
  rcases Bool.eq_false_or_eq_true (isCode c) with hi | hi
  · exact h2 c (List.mem_filter.mpr ⟨hc, hi⟩)
  · simpa [hi] using h
set_option maxRecDepth 65536 in
theorem w_c0 : (Jvm.Cond.code x code maxLocals ret).before args0 about1 = true := code_word (m := ⟨1, 1⟩) (meth := k1m1) (c := k1c1) (by decide +kernel) rfl rfl rfl (by decide +kernel)
set_option maxRecDepth 65536 in
theorem w_c1 : (Jvm.Cond.code ({ cls := "com/example/monitorgen/monitorgen/trace/Utf8Text", name := "byteOrderMarkLength", desc := "([BII)I" } : Jvm.MethodName) prog_75_method_5_code (4 : Nat) (Option.some Jvm.ClassFile.FieldType.int)).before args0 about1 = true := code_word (m := ⟨2, 0⟩) (meth := k2m0) (c := k2c0) (by decide +kernel) rfl rfl rfl (by decide +kernel)
def codes1 : List Jvm.Cond := [Jvm.Cond.code x code maxLocals ret, Jvm.Cond.code ({ cls := "com/example/monitorgen/monitorgen/trace/Utf8Text", name := "byteOrderMarkLength", desc := "([BII)I" } : Jvm.MethodName) prog_75_method_5_code (4 : Nat) (Option.some Jvm.ClassFile.FieldType.int)]
set_option maxRecDepth 65536 in
theorem codes_eq : words1.filter isCode = codes1 := rfl
theorem w_codes : ∀ c ∈ words1.filter isCode, c.before args0 about1 = true := by
  rw [codes_eq]
  intro c hc
  simp only [codes1, List.mem_cons, List.not_mem_nil, or_false] at hc
  rcases hc with rfl | rfl
  · exact w_c0
  · exact w_c1
set_option maxRecDepth 65536 in
theorem w_t1 : words1.all (fun c => isCode c || c.before args0 about1) = true := by decide +kernel
theorem w_tables : (allAtoms (Jvm.Cond.code x code maxLocals ret :: tables_1)).before args0 about1 = true := by
  rw [allAtoms_all]
  show words1.all (fun c => c.before args0 about1) = true
  refine all_split ?_ w_codes
  rw [w_t1]
set_option maxRecDepth 65536 in
theorem w_case : (Jvm.Cond.and given_1 narrow_1).before args0 about1 = true := by decide +kernel
theorem w_applies : (headSpec (Jvm.Cond.code x code maxLocals ret :: tables_1) room_1).applies x e0.platform about1 = true :=
  (Spec.applies_iff w_frames).mpr ⟨w_running, w_runnable, w_alone, w_named, w_hears, w_ripe, w_room, w_tables⟩
theorem atStart : AtStart classFile x code maxLocals ret World_1 tables_1 room_1 Calls_1 rest_1 Pre_1 launch0 p0 e0 about1 theMethod args0 below0 :=
  ⟨lists_1, trivial, launch0.admits_env _ _ _, launch0.least_env, fairChoices_fair.cas, fairChoices_fair.clock, w_frames, w_args, w_heap, w_applies, trivial, trivial, w_case⟩
end start1
theorem witness_1 : WitnessClaimed_1 := ⟨start1.p0, start1.e0, start1.about1, start1.theMethod, start1.args0, start1.below0, start1.atStart⟩
end Jvm.Pilot.@@N@@
