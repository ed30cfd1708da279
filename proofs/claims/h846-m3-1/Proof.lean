import JvmDerived
import JvmDerived.Pilot.@@N@@Statement
import JvmDerived.Pilot.@@N@@Code
set_option linter.unusedVariables false
set_option linter.unusedSimpArgs false
@@BLOCK:NumsL.lean.txt@@
namespace Jvm.RoadKit
open Sem ClassFile Op Lib Jvm.Stand Jvm.Free Jvm.LawKit
section New
variable {p : Program} {l : Launch} {e : Env} {R : Room} {s : State} {m : MethodId} {args : Array Value} {below : List Frame} {meth : Method} {c : Code} {T : State} {locs : List Loc} {cells slots : Nat}
theorem retI (X : Stand p l e R s m args below meth c T locs cells slots) (hx : p.tables.exec = Jvm.exec) {pc : Nat} {Ls : Array Slot} {z : Int32} {rest : List Value} (hret : meth.sig.returnType = some .int) (hd : decode c.code pc = .ok (.ireturn, 1)) {fs : List Frame}
    (hl : ∀ (f : JFrame) (acts : List Action), f.method = m → f.locked = none → f.entered = [] → (doReturn e (T.setTop f) acts (some (.int z))).1 = T.setFrames fs) : Steps p.tables e below (T.setTop (mkF m pc Ls (.int z :: rest))) (T.setFrames fs) := by
  have hm' : T.vm.method? m = some meth := X.method'
  have hn : narrow .int (.int z) = .int z := rfl
  show Steps p.tables e below (T.setTop { method := m, pc := pc, locals := Ls, stack := _ :: rest, locked := none }) _
  jvm_step X.here [X.here.top, hx, hd, hm', hret, hn]
  first | (intro acts; rw [hl _ acts rfl rfl rfl]) | rw [hl _ _ rfl rfl rfl]
  exact Steps.refl _
def own_irem (x y : Int32) : Int32 := x - x / y * y
def own_lrem (x y : Int64) : Int64 := x - x / y * y
theorem own_retZ (X : Stand p l e R s m args below meth c T locs cells slots) (hx : p.tables.exec = Jvm.exec) {pc : Nat} {Ls : Array Slot} {z : Int32} {rest : List Value} (hret : meth.sig.returnType = some .boolean) (hz : z &&& 1 = z) (hd : decode c.code pc = .ok (.ireturn, 1)) {fs : List Frame}
    (hl : ∀ (f : JFrame) (acts : List Action), f.method = m → f.locked = none → f.entered = [] → (doReturn e (T.setTop f) acts (some (.int z))).1 = T.setFrames fs) : Steps p.tables e below (T.setTop (mkF m pc Ls (.int z :: rest))) (T.setFrames fs) :=
  retN X hx (t := .boolean) hret (by simp) hd (by rw [show nar .boolean z = z from hz]; exact hl)
theorem own_ite_bool {q : Prop} [Decidable q] {a b : Int32} (ha : a &&& 1 = a) (hb : b &&& 1 = b) : (if q then a else b) &&& 1 = (if q then a else b) := by split <;> assumption
theorem own_retJ (X : Stand p l e R s m args below meth c T locs cells slots) (hx : p.tables.exec = Jvm.exec) {pc : Nat} {Ls : Array Slot} {z : Int64} {rest : List Value} (hret : meth.sig.returnType = some .long) (hd : decode c.code pc = .ok (.lreturn, 1)) {fs : List Frame}
    (hl : ∀ (f : JFrame) (acts : List Action), f.method = m → f.locked = none → f.entered = [] → (doReturn e (T.setTop f) acts (some (.long z))).1 = T.setFrames fs) : Steps p.tables e below (T.setTop (mkF m pc Ls (.long z :: rest))) (T.setFrames fs) := by
  have hm' : T.vm.method? m = some meth := X.method'
  show Steps p.tables e below (T.setTop { method := m, pc := pc, locals := Ls, stack := _ :: rest, locked := none }) _
  jvm_step X.here [X.here.top, hx, hd, hm', hret, narrow]
  first | (intro acts; rw [hl _ acts rfl rfl rfl]) | rw [hl _ _ rfl rfl rfl]
  exact Steps.refl _
/-- the run goes from here to a state of which P holds -/
def own_Goes (tb : Tables) (e : Env) (below : List Frame) (P : State → Prop) (T : State) (f : JFrame) : Prop :=
  ∃ u, P u ∧ ∀ t, Steps tb e below u t → Steps tb e below (T.setTop f) t
theorem own_go {tb : Tables} {P : State → Prop} {T T' : State} {f f' : JFrame} (k : own_Goes tb e below P T' f') (h : ∀ t, Steps tb e below (T'.setTop f') t → Steps tb e below (T.setTop f) t) : own_Goes tb e below P T f := by
  obtain ⟨u, hu, hk⟩ := k
  exact ⟨u, hu, fun t q => h t (hk t q)⟩
theorem own_out {tb : Tables} {Q : Outcome → State → Prop} {T : State} {f : JFrame} (k : own_Goes tb e below (fun u => ∃ o, u.status = .running ∧ Ended u below o ∧ Q o u) T f) :
    ∃ s₂ o, Steps tb e below (T.setTop f) s₂ ∧ s₂.status = .running ∧ Ended s₂ below o ∧ Q o s₂ := by
  obtain ⟨u, ⟨o, h1, h2, h3⟩, hk⟩ := k
  exact ⟨u, o, hk u (Steps.refl _), h1, h2, h3⟩
theorem own_lsw {tb : Tables} [Ours tb] {T target : State} {g : JFrame} (h : At T m c below) (hx : tb.exec = Jvm.exec) (hg : g.method = m) {dflt : Int} {pairs : Array (Int × Int)} {len : Nat} {o : Int} {pc0 pc' : Nat} (hpc : g.pc = pc0) (hd : decode c.code g.pc = .ok (.lookupswitch dflt pairs, len)) {i : Int32} {rest : List Value} (hs : g.stack = .int i :: rest)
    (hord : (pairs.toList.zip (pairs.toList.drop 1)).all (fun (a, next) => a.1 < next.1) = true) (hoff : lookupswitch.offset pairs.toList dflt i.toInt = o) (ho : 0 ≤ (pc0 : Int) + o) (hp : ((pc0 : Int) + o).toNat = pc')
    (hr : Steps tb e below (T.setTop { g with pc := pc', stack := rest }) target) : Steps tb e below (T.setTop g) target := by
  subst hg hpc hp
  jvm_step h [h.top, hx, hd, hs, hoff, ho, lookupswitch.wp_chain]
  exact ⟨by simpa using hord, hr⟩
theorem own_ne_key {i k : Int32} (h : ¬ i = k) : ¬ (k.toInt = i.toInt) := fun q => h (Int32.toInt_inj.mp q.symm)
theorem own_selP {s : State} {args : Array Value} {y : MethodName} {n : Nat} (wi : (Cond.instantiable y.cls n).before args s = true) (hp : s.PrivateAt y) (hi : (Cond.instanceMethod y).before args s = true) (hy : y.cls ≠ "java/lang/invoke/MethodHandle" ∧ y.cls ≠ "java/lang/invoke/VarHandle") : (Cond.selects y.cls y y).before args s = true := by
  obtain ⟨c, k, h1, h2, -, h3, -⟩ := Cond.instantiable_spec wi
  simp only [Bool.or_eq_false_iff] at h3
  exact selects_self_of_private h1 h2 h3.1 hp hi hy
end New
end Jvm.RoadKit
namespace Jvm.RoadKit
open Sem ClassFile Op Lib Jvm.Stand Jvm.Free Jvm.LawKit
theorem own_lt32 {x y : Int32} : x < y ↔ x.toInt < y.toInt := Int32.lt_iff_toInt_lt
theorem own_eq32 {x y : Int32} : x = y ↔ x.toInt = y.toInt := (Int32.toInt_inj).symm
theorem own_mod32 (x y : Int32) : (own_irem x y).toInt = x.toInt.tmod y.toInt := by
  rw [show own_irem x y = x % y from irem_eq_mod x y]; exact Int32.toInt_mod x y
theorem own_pos31 (x : Int32) : (x &&& (2147483647 : Int32)).toInt = x.toInt % 2147483648 := Jvm.Kit.i32_mask x 2147483647 (k := 31) (by decide) (by decide)
theorem own_rem31 (x : Int32) (y : Int32) (hy : 0 < y.toInt) : (own_irem (x &&& (2147483647 : Int32)) y).toInt = (x.toInt % 2147483648) % y.toInt := by
  rw [own_mod32, own_pos31, Int.tmod_eq_emod_of_nonneg (by omega)]
theorem own_and3 (x : Int32) : (x &&& (3 : Int32)).toInt = x.toInt % 4 := Jvm.Kit.i32_mask x 3 (k := 2) (by decide) (by decide)
theorem own_and7 (x : Int32) : (x &&& (7 : Int32)).toInt = x.toInt % 8 := Jvm.Kit.i32_mask x 7 (k := 3) (by decide) (by decide)
theorem own_and63 (x : Int32) : (x &&& (63 : Int32)).toInt = x.toInt % 64 := Jvm.Kit.i32_mask x 63 (k := 6) (by decide) (by decide)
theorem own_and255 (x : Int32) : (x &&& (255 : Int32)).toInt = x.toInt % 256 := Jvm.Kit.i32_mask x 255 (k := 8) (by decide) (by decide)
theorem own_add_ok {x y : Int32} (h1 : -2147483648 ≤ x.toInt + y.toInt) (h2 : x.toInt + y.toInt < 2147483648) : (x + y).toInt = x.toInt + y.toInt := Jvm.Kit.i32_add (by omega) (by omega)
theorem own_sub_ok {x y : Int32} (h1 : -2147483648 ≤ x.toInt - y.toInt) (h2 : x.toInt - y.toInt < 2147483648) : (x - y).toInt = x.toInt - y.toInt := Jvm.Kit.i32_sub (by omega) (by omega)
theorem own_nat32 {x : Int32} (h : 0 ≤ x.toInt) : (x.toNatClampNeg : Int) = x.toInt := by simp only [Int32.toNatClampNeg]; omega
theorem own_rng (x : Int32) : -2147483648 ≤ x.toInt ∧ x.toInt < 2147483648 := ⟨x.le_toInt, x.toInt_lt⟩
theorem own_m3 (y : Int32) : ¬ (y &&& (3 : Int32)) < (0 : Int32) ∧ (y &&& (3 : Int32)).toNatClampNeg ≤ 3 := by
  have e := own_and3 y
  refine ⟨?_, ?_⟩
  · rw [own_lt32, e, show (0 : Int32).toInt = 0 from rfl]; omega
  · have := own_nat32 (x := y &&& 3) (by omega); omega
end Jvm.RoadKit
namespace Jvm.RoadKit
open Sem ClassFile Op Lib Jvm.Stand Jvm.Free Jvm.LawKit
section OwnArr
variable {p : Program} {l : Launch} {e : Env} {R : Room} {s : State} {m : MethodId} {args : Array Value} {below : List Frame} {meth : Method} {c : Code} {T : State} {locs : List Loc} {cells slots : Nat}
variable {Z : State} {h h' : Heap} {a b : Addr} {sl : Nat} {v : Value} {ws : List Addr} {n : Int32} {L : List Int32} {M : List Int64} {ty : FieldType} {k : ClassId}
/-- an array of ints (bytes, chars): its length and what it holds -/
def own_AI (Z : State) (h : Heap) (a : Addr) (ty : FieldType) (n : Int32) (L : List Int32) : Prop := L.length = n.toNatClampNeg ∧ ∃ k, Arv Z h a k ty n (L.map Value.int) (.int 0)
def own_AJ (Z : State) (h : Heap) (a : Addr) (n : Int32) (M : List Int64) : Prop := M.length = n.toNatClampNeg ∧ ∃ k, Arv Z h a k .long n (M.map Value.long) (.long 0)
theorem own_AI.lt (F : own_AI Z h a ty n L) : a < h.size := by obtain ⟨_, _, A⟩ := F; exact A.lt
theorem own_AJ.lt (F : own_AJ Z h a n M) : a < h.size := by obtain ⟨_, _, A⟩ := F; exact A.lt
theorem own_AI.ext (F : own_AI Z h a ty n L) (E : Ext h h') : own_AI Z h' a ty n L := by obtain ⟨q, k, A⟩ := F; exact ⟨q, k, A.ext E⟩
theorem own_AJ.ext (F : own_AJ Z h a n M) (E : Ext h h') : own_AJ Z h' a n M := by obtain ⟨q, k, A⟩ := F; exact ⟨q, k, A.ext E⟩
theorem own_AI.other (F : own_AI Z h b ty n L) (W : Wr h h' a sl v) (q : b ≠ a) : own_AI Z h' b ty n L := by obtain ⟨r, k, A⟩ := F; exact ⟨r, k, A.other W q⟩
theorem own_AJ.other (F : own_AJ Z h b n M) (W : Wr h h' a sl v) (q : b ≠ a) : own_AJ Z h' b n M := by obtain ⟨r, k, A⟩ := F; exact ⟨r, k, A.other W q⟩
theorem own_AI.keep (F : own_AI Z h a ty n L) (K : Keep h h' ws) (q : a ∉ ws) : own_AI Z h' a ty n L := by obtain ⟨r, k, A⟩ := F; exact ⟨r, k, A.keep K q⟩
theorem own_AJ.keep (F : own_AJ Z h a n M) (K : Keep h h' ws) (q : a ∉ ws) : own_AJ Z h' a n M := by obtain ⟨r, k, A⟩ := F; exact ⟨r, k, A.keep K q⟩
theorem own_AI.new (A : Arr Z h a (newA k ty n) ty) (q : ¬ n < 0) (hd : defaultValue ty = .int 0) : own_AI Z h a ty n (List.replicate n.toNatClampNeg 0) := by
  refine ⟨by simp, k, ?_⟩
  have B := Arv.new A q
  rw [hd] at B
  rw [List.map_replicate]
  exact B.pad (pad_rep [] _ _)
theorem own_AJ.new (A : Arr Z h a (newA k .long n) .long) (q : ¬ n < 0) : own_AJ Z h a n (List.replicate n.toNatClampNeg 0) := by
  refine ⟨by simp, k, ?_⟩
  have B := Arv.new A q
  rw [List.map_replicate]
  exact B.pad (pad_rep [] _ _)
theorem own_getD_int (L : List Int32) (i : Nat) : (L.map Value.int).getD i (.int 0) = .int (L.getD i 0) := by
  simp only [List.getD_eq_getElem?_getD, List.getElem?_map]
  cases L[i]? <;> rfl
theorem own_getD_long (M : List Int64) (i : Nat) : (M.map Value.long).getD i (.long 0) = .long (M.getD i 0) := by
  simp only [List.getD_eq_getElem?_getD, List.getElem?_map]
  cases M[i]? <;> rfl
theorem own_inl {j : Int32} {len : Nat} (q : len = n.toNatClampNeg) (hj : ¬ j < 0 ∧ j < n) : j.toNatClampNeg < len := by
  rw [q]; obtain ⟨q1, q2⟩ := hj
  rw [Int32.lt_iff_toInt_lt] at q1 q2
  have e0 : (0 : Int32).toInt = 0 := rfl
  simp only [Int32.toNatClampNeg] at *; omega
theorem own_ldI (X : Stand p l e R s m args below meth c T locs cells slots) (hx : p.tables.exec = Jvm.exec) (hZ : Z.Warmed39 s.vm) (eT : T.heap = h) (F : own_AI Z h a .int n L) {j : Int32} (hj : ¬ j < 0 ∧ j < n) {g : JFrame} (hg : g.method = m) {rest : List Value} (hs : g.stack = .int j :: .ref a :: rest) (hd : decode c.code g.pc = .ok (.iaload, 1)) :
    ∀ target, Steps p.tables e below (T.setTop { g with pc := g.pc + 1, stack := .int (L.getD j.toNatClampNeg 0) :: rest }) target → Steps p.tables e below (T.setTop g) target := by
  intro target hk
  obtain ⟨q, k, cl, A, r1, S, r3, H, G⟩ := F
  have hin := inb_of S hj
  exact X.iaload hx (j := j) (v := .int (L.getD j.toNatClampNeg 0)) (by rw [eT]; exact A.1) (State.isArrayOf_alike hZ.alike A.2.1) A.2.2 hin (H.at hin (own_getD_int L _)) hg hs hd _ hk
theorem own_ldB (X : Stand p l e R s m args below meth c T locs cells slots) (hx : p.tables.exec = Jvm.exec) (hZ : Z.Warmed39 s.vm) (eT : T.heap = h) (F : own_AI Z h a .byte n L) {j : Int32} (hj : ¬ j < 0 ∧ j < n) {g : JFrame} (hg : g.method = m) {rest : List Value} (hs : g.stack = .int j :: .ref a :: rest) (hd : decode c.code g.pc = .ok (.baload, 1)) :
    ∀ target, Steps p.tables e below (T.setTop { g with pc := g.pc + 1, stack := .int (L.getD j.toNatClampNeg 0) :: rest }) target → Steps p.tables e below (T.setTop g) target := by
  intro target hk
  obtain ⟨q, k, cl, A, r1, S, r3, H, G⟩ := F
  have hin := inb_of S hj
  exact X.baloadBytes hx (j := j) (v := .int (L.getD j.toNatClampNeg 0)) (by rw [eT]; exact A.1) (State.isArrayOf_alike hZ.alike A.2.1) A.2.2 hin (H.at hin (own_getD_int L _)) hg hs hd _ hk
theorem own_ldJ (X : Stand p l e R s m args below meth c T locs cells slots) (hx : p.tables.exec = Jvm.exec) (hZ : Z.Warmed39 s.vm) (eT : T.heap = h) (F : own_AJ Z h a n M) {j : Int32} (hj : ¬ j < 0 ∧ j < n) {g : JFrame} (hg : g.method = m) {rest : List Value} (hs : g.stack = .int j :: .ref a :: rest) (hd : decode c.code g.pc = .ok (.laload, 1)) :
    ∀ target, Steps p.tables e below (T.setTop { g with pc := g.pc + 1, stack := .long (M.getD j.toNatClampNeg 0) :: rest }) target → Steps p.tables e below (T.setTop g) target := by
  intro target hk
  obtain ⟨q, k, cl, A, r1, S, r3, H, G⟩ := F
  have hin := inb_of S hj
  exact X.laload hx (j := j) (v := .long (M.getD j.toNatClampNeg 0)) (by rw [eT]; exact A.1) (State.isArrayOf_alike hZ.alike A.2.1) A.2.2 hin (H.at hin (own_getD_long M _)) hg hs hd _ hk
theorem own_len (X : Stand p l e R s m args below meth c T locs cells slots) (hx : p.tables.exec = Jvm.exec) (hZ : Z.Warmed39 s.vm) (eT : T.heap = h) (F : own_AI Z h a ty n L) {g : JFrame} (hg : g.method = m) {rest : List Value} (hs : g.stack = .ref a :: rest) (hd : decode c.code g.pc = .ok (.arraylength, 1)) :
    ∀ target, Steps p.tables e below (T.setTop { g with pc := g.pc + 1, stack := .int n :: rest }) target → Steps p.tables e below (T.setTop g) target := by
  intro target hk
  obtain ⟨q, k, cl, A, r1, S, r3, H, G⟩ := F
  refine X.arraylength hx (by rw [eT]; exact A.1) (State.isArrayOf_alike hZ.alike A.2.1) hg hs hd _ ?_
  rw [len_of S r3]; exact hk
theorem own_lenJ (X : Stand p l e R s m args below meth c T locs cells slots) (hx : p.tables.exec = Jvm.exec) (hZ : Z.Warmed39 s.vm) (eT : T.heap = h) (F : own_AJ Z h a n M) {g : JFrame} (hg : g.method = m) {rest : List Value} (hs : g.stack = .ref a :: rest) (hd : decode c.code g.pc = .ok (.arraylength, 1)) :
    ∀ target, Steps p.tables e below (T.setTop { g with pc := g.pc + 1, stack := .int n :: rest }) target → Steps p.tables e below (T.setTop g) target := by
  intro target hk
  obtain ⟨q, k, cl, A, r1, S, r3, H, G⟩ := F
  refine X.arraylength hx (by rw [eT]; exact A.1) (State.isArrayOf_alike hZ.alike A.2.1) hg hs hd _ ?_
  rw [len_of S r3]; exact hk
theorem own_stI (X : Stand p l e R s m args below meth c T locs cells slots) (hx : p.tables.exec = Jvm.exec) (hZ : Z.Warmed39 s.vm) (eT : T.heap = h) (F : own_AI Z h a .int n L) {j x : Int32} (hj : ¬ j < 0 ∧ j < n) {g : JFrame} (hg : g.method = m) {rest : List Value} (hs : g.stack = .int x :: .int j :: .ref a :: rest) (hd : decode c.code g.pc = .ok (.iastore, 1)) :
    ∃ T' h', Stand p l e R s m args below meth c T' (locs ++ [⟨a, j.toNatClampNeg⟩]) cells slots ∧ T'.heap = h' ∧ Wr h h' a j.toNatClampNeg (.int x) ∧ own_AI Z h' a .int n (L.set j.toNatClampNeg x) ∧ ∀ target, Steps p.tables e below (T'.setTop { g with pc := g.pc + 1, stack := rest }) target → Steps p.tables e below (T.setTop g) target := by
  obtain ⟨q, k, cl, A, r1, S, r3, H, G⟩ := F
  obtain ⟨T', h', X', e', W, st⟩ := stI X hx hZ eT A (inb_of S hj) hg hs hd
  refine ⟨T', h', X', e', W, ⟨by simp [q], k, ?_⟩, st⟩
  have B := Arv.set A r1 S r3 H G (v := .int x) rfl W j.toNatClampNeg rfl (by rw [List.length_map]; exact own_inl q hj)
  rw [List.map_set]; exact B
theorem own_stB (X : Stand p l e R s m args below meth c T locs cells slots) (hx : p.tables.exec = Jvm.exec) (hZ : Z.Warmed39 s.vm) (eT : T.heap = h) (F : own_AI Z h a .byte n L) {j x : Int32} (hj : ¬ j < 0 ∧ j < n) {g : JFrame} (hg : g.method = m) {rest : List Value} (hs : g.stack = .int x :: .int j :: .ref a :: rest) (hd : decode c.code g.pc = .ok (.bastore, 1)) :
    ∃ T' h', Stand p l e R s m args below meth c T' (locs ++ [⟨a, j.toNatClampNeg⟩]) cells slots ∧ T'.heap = h' ∧ Wr h h' a j.toNatClampNeg (.int x.toInt8.toInt32) ∧ own_AI Z h' a .byte n (L.set j.toNatClampNeg x.toInt8.toInt32) ∧ ∀ target, Steps p.tables e below (T'.setTop { g with pc := g.pc + 1, stack := rest }) target → Steps p.tables e below (T.setTop g) target := by
  obtain ⟨q, k, cl, A, r1, S, r3, H, G⟩ := F
  obtain ⟨T', h', X', e', W, st⟩ := stB X hx hZ eT A (inb_of S hj) hg hs hd
  refine ⟨T', h', X', e', W, ⟨by simp [q], k, ?_⟩, st⟩
  have B := Arv.set A r1 S r3 H G (v := .int x.toInt8.toInt32) (fits_nar_byte _) W j.toNatClampNeg rfl (by rw [List.length_map]; exact own_inl q hj)
  rw [List.map_set]; exact B
theorem own_stJ (X : Stand p l e R s m args below meth c T locs cells slots) (hx : p.tables.exec = Jvm.exec) (hZ : Z.Warmed39 s.vm) (eT : T.heap = h) (F : own_AJ Z h a n M) {j : Int32} {x : Int64} (hj : ¬ j < 0 ∧ j < n) {g : JFrame} (hg : g.method = m) {rest : List Value} (hs : g.stack = .long x :: .int j :: .ref a :: rest) (hd : decode c.code g.pc = .ok (.lastore, 1)) :
    ∃ T' h', Stand p l e R s m args below meth c T' (locs ++ [⟨a, j.toNatClampNeg⟩]) cells slots ∧ T'.heap = h' ∧ Wr h h' a j.toNatClampNeg (.long x) ∧ own_AJ Z h' a n (M.set j.toNatClampNeg x) ∧ ∀ target, Steps p.tables e below (T'.setTop { g with pc := g.pc + 1, stack := rest }) target → Steps p.tables e below (T.setTop g) target := by
  obtain ⟨q, k, cl, A, r1, S, r3, H, G⟩ := F
  obtain ⟨T', h', X', e', W, st⟩ := stJ X hx hZ eT A (inb_of S hj) hg hs hd
  refine ⟨T', h', X', e', W, ⟨by simp [q], k, ?_⟩, st⟩
  have B := Arv.set A r1 S r3 H G (v := .long x) rfl W j.toNatClampNeg rfl (by rw [List.length_map]; exact own_inl q hj)
  rw [List.map_set]; exact B
end OwnArr
end Jvm.RoadKit
namespace Jvm.RoadKit
open Sem ClassFile Op Lib Jvm.Stand Jvm.Free Jvm.LawKit
section OwnIdx
variable {Z : State} {h : Heap} {a : Addr} {n : Int32} {L : List Int32} {ty : FieldType} {i : Nat}
theorem own_ofNat_toInt {i : Nat} (hi : i < 2 ^ 31) : (Int32.ofNat i).toInt = (i : Int) := Int32.toInt_ofNat_of_lt hi
theorem own_AI.len (A : own_AI Z h a ty n L) : n.toInt = (L.length : Int) ∧ L.length < 2 ^ 31 := by
  obtain ⟨q, k, cl, A, r1, S, r3, H, G⟩ := A
  rw [Int32.lt_iff_toInt_lt] at r3
  have e0 : (0 : Int32).toInt = 0 := rfl
  have := n.toInt_lt
  simp only [Int32.toNatClampNeg] at q; omega
theorem own_AI.lt_iff (A : own_AI Z h a ty n L) (hi : i ≤ L.length) : Int32.ofNat i < n ↔ i < L.length := by
  obtain ⟨q, r⟩ := A.len
  rw [Int32.lt_iff_toInt_lt, own_ofNat_toInt (by omega), q]; omega
theorem own_AI.eq_iff (A : own_AI Z h a ty n L) (hi : i ≤ L.length) : Int32.ofNat i = n ↔ i = L.length := by
  obtain ⟨q, r⟩ := A.len
  rw [← Int32.toInt_inj, own_ofNat_toInt (by omega), q]; omega
theorem own_AI.inb (A : own_AI Z h a ty n L) (hi : i < L.length) : ¬ Int32.ofNat i < 0 ∧ Int32.ofNat i < n := by
  obtain ⟨q, r⟩ := A.len
  refine ⟨?_, (A.lt_iff (Nat.le_of_lt hi)).mpr hi⟩
  have e0 : (0 : Int32).toInt = 0 := rfl
  rw [Int32.lt_iff_toInt_lt, own_ofNat_toInt (by omega), e0]; omega
theorem own_at_ofNat {i : Nat} (hi : i < 2 ^ 31) : (Int32.ofNat i).toNatClampNeg = i := by
  simp only [Int32.toNatClampNeg, own_ofNat_toInt hi]; rfl
theorem own_succ (i : Nat) : Int32.ofNat i + (1 : Int32) = Int32.ofNat (i + 1) := by rw [Int32.ofNat_add]; rfl
end OwnIdx
end Jvm.RoadKit
namespace Jvm.Pilot.@@N@@
open Jvm Jvm.ClassFile Sem Op Lib Jvm.Free Jvm.Stand Jvm.LawKit Jvm.RoadKit Bundle Jvm.Pilot.@@N@@.Jvm.D
def own_inv (b : Nat) (nd : Int32) (LO LS : List Int32) : Prop := ∃ d : Nat, nd = Int32.ofNat d ∧ d ≤ b ∧ (∀ i, i < d → ¬ LO.getD i 0 < 0 ∧ LO.getD i 0 < (16 : Int32)) ∧ ∀ k, k < 16 → LS.getD k 0 ≠ 0 → ∃ i, i < d ∧ LO.getD i 0 = Int32.ofNat k ∧ LS.getD k 0 = Int32.ofNat (i + 1)
theorem own_pn0 : plainName "com/example/monitorgen/monitorgen/trace/Instant" = true := by first | (simp [plainName, overriddenIn]; done) | decide +kernel
theorem own_d1_0 : decode prog_66_method_1_code 0 = .ok (.aload_n 0, 1) := by decide +kernel
theorem own_d1_1 : decode prog_66_method_1_code 1 = .ok (.invokespecial 1, 3) := by decide +kernel
theorem own_d1_4 : decode prog_66_method_1_code 4 = .ok (.aload_n 0, 1) := by decide +kernel
theorem own_d1_5 : decode prog_66_method_1_code 5 = .ok (.iconst 4, 1) := by decide +kernel
theorem own_d1_6 : decode prog_66_method_1_code 6 = .ok (.newarray .int, 2) := by decide +kernel
theorem own_d1_8 : decode prog_66_method_1_code 8 = .ok (.putfield 7, 3) := by decide +kernel
theorem own_d1_11 : decode prog_66_method_1_code 11 = .ok (.aload_n 0, 1) := by decide +kernel
theorem own_d1_12 : decode prog_66_method_1_code 12 = .ok (.iconst 4, 1) := by decide +kernel
theorem own_d1_13 : decode prog_66_method_1_code 13 = .ok (.newarray .long, 2) := by decide +kernel
theorem own_d1_15 : decode prog_66_method_1_code 15 = .ok (.putfield 13, 3) := by decide +kernel
theorem own_d1_18 : decode prog_66_method_1_code 18 = .ok (.aload_n 0, 1) := by decide +kernel
theorem own_d1_19 : decode prog_66_method_1_code 19 = .ok (.iconst 4, 1) := by decide +kernel
theorem own_d1_20 : decode prog_66_method_1_code 20 = .ok (.newarray .int, 2) := by decide +kernel
theorem own_d1_22 : decode prog_66_method_1_code 22 = .ok (.putfield 17, 3) := by decide +kernel
theorem own_d1_25 : decode prog_66_method_1_code 25 = .ok (.aload_n 0, 1) := by decide +kernel
theorem own_d1_26 : decode prog_66_method_1_code 26 = .ok (.bipush 16, 2) := by decide +kernel
theorem own_d1_28 : decode prog_66_method_1_code 28 = .ok (.newarray .int, 2) := by decide +kernel
theorem own_d1_30 : decode prog_66_method_1_code 30 = .ok (.putfield 20, 3) := by decide +kernel
theorem own_d1_33 : decode prog_66_method_1_code 33 = .ok (.return_, 1) := by decide +kernel
theorem own_ef1 (m : MethodId) (oa : Addr) : entryFrame m #[(.ref oa)] 1 = mkF m 0 #[.val (.ref oa)] [] := by first | (simp [entryFrame, mkF, argsToLocals, Value.category]; done) | rfl
abbrev own_room1 : Room := { frames := 1, cells := 4, slots := 28, locals := 12 }
def own_Q1 (Z : State) (oa : Addr) (h0 : Heap) (n0 : Nat) (v : Option Value) (h : Heap) (L : List Loc) : Prop := ∃ oe : Addr, ∃ oc : Addr, ∃ oo : Addr, ∃ os : Addr, v = none ∧ Fr n0 L ∧ Keep h0 h [oa] ∧ h0.size ≤ oe ∧ h0.size ≤ oc ∧ h0.size ≤ oo ∧ h0.size ≤ os ∧ oa ≠ oe ∧ oa ≠ oc ∧ oa ≠ oo ∧ oa ≠ os ∧ oe ≠ oc ∧ oe ≠ oo ∧ oe ≠ os ∧ oc ≠ oo ∧ oc ≠ os ∧ oo ≠ os ∧ Fld Z h oa "com/example/monitorgen/monitorgen/trace/Instant" "_events" "[I" (.ref oe) ∧ Fld Z h oa "com/example/monitorgen/monitorgen/trace/Instant" "_counts" "[J" (.ref oc) ∧ Fld Z h oa "com/example/monitorgen/monitorgen/trace/Instant" "_slotOf" "[I" (.ref oo) ∧ Fld Z h oa "com/example/monitorgen/monitorgen/trace/Instant" "_slots" "[I" (.ref os) ∧ Fld Z h oa "com/example/monitorgen/monitorgen/trace/Instant" "_distinct" "I" (.int (0 : Int32)) ∧ Fld Z h oa "com/example/monitorgen/monitorgen/trace/Instant" "_total" "J" (.long (0 : Int64)) ∧ Fld Z h oa "com/example/monitorgen/monitorgen/trace/Instant" "_ignored" "J" (.long (0 : Int64)) ∧ own_AI Z h oe .int (4 : Int32) [(0 : Int32), (0 : Int32), (0 : Int32), (0 : Int32)] ∧ own_AJ Z h oc (4 : Int32) [(0 : Int64), (0 : Int64), (0 : Int64), (0 : Int64)] ∧ own_AI Z h oo .int (4 : Int32) [(0 : Int32), (0 : Int32), (0 : Int32), (0 : Int32)] ∧ own_AI Z h os .int (16 : Int32) [(0 : Int32), (0 : Int32), (0 : Int32), (0 : Int32), (0 : Int32), (0 : Int32), (0 : Int32), (0 : Int32), (0 : Int32), (0 : Int32), (0 : Int32), (0 : Int32), (0 : Int32), (0 : Int32), (0 : Int32), (0 : Int32)]
set_option maxRecDepth 65536 in
set_option maxHeartbeats 40000000 in
theorem own_rm1 (l : Launch) (Z : State) (a0 : Array Value) (hw : ∀ d ∈ tables_1, d.before a0 Z = true) (ws : List Jvm.Cond) (oa : Addr) (h0 : Heap) (n0 : Nat) (Z0 : n0 ≤ h0.size) (E_oa : Exa Z h0 oa "com/example/monitorgen/monitorgen/trace/Instant") (g_oa : n0 ≤ oa) (F__events_oa : Fld Z h0 oa "com/example/monitorgen/monitorgen/trace/Instant" "_events" "[I" .null) (F__counts_oa : Fld Z h0 oa "com/example/monitorgen/monitorgen/trace/Instant" "_counts" "[J" .null) (F__slotOf_oa : Fld Z h0 oa "com/example/monitorgen/monitorgen/trace/Instant" "_slotOf" "[I" .null) (F__slots_oa : Fld Z h0 oa "com/example/monitorgen/monitorgen/trace/Instant" "_slots" "[I" .null) (F__distinct_oa : Fld Z h0 oa "com/example/monitorgen/monitorgen/trace/Instant" "_distinct" "I" (.int (0 : Int32))) (F__total_oa : Fld Z h0 oa "com/example/monitorgen/monitorgen/trace/Instant" "_total" "J" (.long (0 : Int64))) (F__ignored_oa : Fld Z h0 oa "com/example/monitorgen/monitorgen/trace/Instant" "_ignored" "J" (.long (0 : Int64))) :
    MetFree l (⟨"com/example/monitorgen/monitorgen/trace/Instant", "<init>", "()V"⟩ : MethodName) (head1 (Jvm.Cond.code (⟨"com/example/monitorgen/monitorgen/trace/Instant", "<init>", "()V"⟩ : MethodName) prog_66_method_1_code 1 none :: ws) own_room1) (fun a U => a = #[(.ref oa)] ∧ Z.Warmed39 U.vm ∧ U.heap = h0) (fun _ _ _ _ _ => True) (fun _ U o U' => ∃ v L, o = .returned v ∧ own_Q1 Z oa h0 n0 v U'.heap L ∧ FrameEnd U o U' L own_room1.cells own_room1.slots) := by
  refine MetFree.of_bodySF (plainFor_of_name own_pn0) hisR ?_
  intro p e s m args below meth c s₁ Bd hml0 hP hK
  obtain ⟨rfl, hZ, hh⟩ := hP
  have hx := Bd.exec
  have hby := Bd.bytes
  have hml : c.maxLocals = 1 := hml0
  have hown : s.vm.findClass "com/example/monitorgen/monitorgen/trace/Instant" = some m.cls := findClass_of_methodNamed Bd.named
  have hnm := (name_of_methodNamed Bd.named Bd.method).1
  have X0 : Stand p l e own_room1 s m #[(.ref oa)] below meth c s₁ [] 0 0 := Stand.of_body Bd
  have e0 : s₁.heap = h0 := by rw [← hh, Bd.state]; rfl
  have N0 := Fr.nil n0
  refine own_out (Q := fun o U' => ∃ v L, o = .returned v ∧ own_Q1 Z oa h0 n0 v U'.heap L ∧ FrameEnd s o U' L own_room1.cells own_room1.slots) ?_
  refine own_go (T' := s₁) (f' := (mkF m 0 #[.val (.ref oa)] [])) ?_ (fun _ k => castTop (own_ef1 m oa) k)
  refine own_go (T' := s₁) (f' := (mkF m 1 #[.val (.ref oa)] [(.ref oa)])) ?_ (fun _ k => XS.aloadN X0.here hx rfl (hb hby own_d1_0) rfl rfl k)
  obtain ⟨T1, X1, e1, st1⟩ := initO X0 hx hZ hown (hw _ (List.mem_of_getElem? (i := 6) rfl)) (hw _ (List.mem_of_getElem? (i := 7) rfl)) (hw _ (List.mem_of_getElem? (i := 8) rfl)) e0 (g := (mkF m 1 #[.val (.ref oa)] [(.ref oa)])) rfl (by rw [hml]; rfl) rfl (hb hby own_d1_1) (by decide) (W := 0) (by show 2 * 0 + _ ≤ _; exact Nat.le_of_eq rfl) (by decide)
  refine own_go (T' := T1) (f' := (mkF m 4 #[.val (.ref oa)] [])) ?_ (st1)
  refine own_go (T' := T1) (f' := (mkF m 5 #[.val (.ref oa)] [(.ref oa)])) ?_ (fun _ k => XS.aloadN X1.here hx rfl (hb hby own_d1_4) rfl rfl k)
  refine own_go (T' := T1) (f' := (mkF m 6 #[.val (.ref oa)] [(.int (4 : Int32)), (.ref oa)])) ?_ (fun _ k => XS.iconst X1.here hx rfl (hb hby own_d1_5) k)
  obtain ⟨T2, h2, k2, X2, e2, E2, A2, st2⟩ := newP X1 hx hZ (hw _ (List.mem_of_getElem? (i := 9) rfl)) e1 (g := (mkF m 6 #[.val (.ref oa)] [(.int (4 : Int32)), (.ref oa)])) rfl (hb hby own_d1_6) rfl (by decide) (cap := 4) (by decide) (by decide) (by decide) (by decide)
  obtain ⟨b2, g2⟩ : ∃ z, z = h0.size := ⟨_, rfl⟩
  rw [← g2] at A2 st2
  have KK2 : Keep h0 h2 [oa] := (Keep.refl h0 [oa]).ext E2
  have g_b2 : n0 ≤ b2 := Nat.le_trans Z0 (Nat.le_of_eq g2.symm)
  have sz_b2 : h0.size ≤ b2 := Nat.le_trans (Keep.refl h0 [oa]).1 (Nat.le_of_eq g2.symm)
  have ZZ2 : n0 ≤ h2.size := Nat.le_trans Z0 E2.1
  have ne_oa_b2 : oa ≠ b2 := Nat.ne_of_lt (Nat.lt_of_lt_of_le E_oa.lt (Nat.le_of_eq g2.symm))
  have fa3 := E_oa.ext E2
  have fa4 := F__events_oa.ext E2
  have fa5 := F__counts_oa.ext E2
  have fa6 := F__slotOf_oa.ext E2
  have fa7 := F__slots_oa.ext E2
  have fa8 := F__distinct_oa.ext E2
  have fa9 := F__total_oa.ext E2
  have fa10 := F__ignored_oa.ext E2
  have AA2 : own_AI Z h2 b2 .int (4 : Int32) [(0 : Int32), (0 : Int32), (0 : Int32), (0 : Int32)] := own_AI.new A2 (by decide) rfl
  refine own_go (T' := T2) (f' := (mkF m 8 #[.val (.ref oa)] [(.ref b2), (.ref oa)])) ?_ (st2)
  obtain ⟨T11, h11, X11, e11, W11, st11⟩ := putF X2 hx hZ hown (host := "") (Or.inl (hw _ (List.mem_of_getElem? (i := 10) rfl))) Via.refl e2 fa4 fa3 (Or.inl (hw _ (List.mem_of_getElem? (i := 11) rfl))) (hw _ (List.mem_of_getElem? (i := 1) rfl)) (ty := (.array .int)) (by decide) rfl rfl (g := (mkF m 8 #[.val (.ref oa)] [(.ref b2), (.ref oa)])) rfl rfl (hb hby own_d1_8)
  have fa12 := fa3.wr W11
  have fa14 := fa5.other W11 (Or.inr (slot_ne (Or.inl (hw _ (List.mem_of_getElem? (i := 14) rfl))) (Or.inl (hw _ (List.mem_of_getElem? (i := 11) rfl))) (by decide) (t := (.array .long)) (t' := (.array .int)) (by decide) (by decide)))
  have fa15 := fa6.other W11 (Or.inr (slot_ne (Or.inl (hw _ (List.mem_of_getElem? (i := 16) rfl))) (Or.inl (hw _ (List.mem_of_getElem? (i := 11) rfl))) (by decide) (t := (.array .int)) (t' := (.array .int)) (by decide) (by decide)))
  have fa16 := fa7.other W11 (Or.inr (slot_ne (Or.inl (hw _ (List.mem_of_getElem? (i := 18) rfl))) (Or.inl (hw _ (List.mem_of_getElem? (i := 11) rfl))) (by decide) (t := (.array .int)) (t' := (.array .int)) (by decide) (by decide)))
  have fa17 := fa8.other W11 (Or.inr (slot_ne (Or.inl (hw _ (List.mem_of_getElem? (i := 25) rfl))) (Or.inl (hw _ (List.mem_of_getElem? (i := 11) rfl))) (by decide) (t := .int) (t' := (.array .int)) (by decide) (by decide)))
  have fa18 := fa9.other W11 (Or.inr (slot_ne (Or.inl (hw _ (List.mem_of_getElem? (i := 27) rfl))) (Or.inl (hw _ (List.mem_of_getElem? (i := 11) rfl))) (by decide) (t := .long) (t' := (.array .int)) (by decide) (by decide)))
  have fa19 := fa10.other W11 (Or.inr (slot_ne (Or.inl (hw _ (List.mem_of_getElem? (i := 29) rfl))) (Or.inl (hw _ (List.mem_of_getElem? (i := 11) rfl))) (by decide) (t := .long) (t' := (.array .int)) (by decide) (by decide)))
  have fa20 := AA2.other W11 (Ne.symm ne_oa_b2)
  have Fw11 := fa4.same W11
  have N11 := Fr.snoc X11 N0 g_oa
  have KK11 : Keep h0 h11 [oa] := KK2.wr W11 (Or.inl (List.mem_of_getElem? (i := 0) rfl))
  have ZZ11 : n0 ≤ h11.size := Nat.le_trans ZZ2 (Keep.of_wr W11).1
  refine own_go (T' := T11) (f' := (mkF m 11 #[.val (.ref oa)] [])) ?_ (st11)
  refine own_go (T' := T11) (f' := (mkF m 12 #[.val (.ref oa)] [(.ref oa)])) ?_ (fun _ k => XS.aloadN X11.here hx rfl (hb hby own_d1_11) rfl rfl k)
  refine own_go (T' := T11) (f' := (mkF m 13 #[.val (.ref oa)] [(.int (4 : Int32)), (.ref oa)])) ?_ (fun _ k => XS.iconst X11.here hx rfl (hb hby own_d1_12) k)
  obtain ⟨T21, h21, k21, X21, e21, E21, A21, st21⟩ := newP X11 hx hZ (hw _ (List.mem_of_getElem? (i := 12) rfl)) e11 (g := (mkF m 13 #[.val (.ref oa)] [(.int (4 : Int32)), (.ref oa)])) rfl (hb hby own_d1_13) rfl (by decide) (cap := 4) (by decide) (by decide) (by decide) (by decide)
  obtain ⟨b21, g21⟩ : ∃ z, z = h11.size := ⟨_, rfl⟩
  rw [← g21] at A21 st21
  have KK21 : Keep h0 h21 [oa] := KK11.ext E21
  have g_b21 : n0 ≤ b21 := Nat.le_trans ZZ11 (Nat.le_of_eq g21.symm)
  have sz_b21 : h0.size ≤ b21 := Nat.le_trans KK11.1 (Nat.le_of_eq g21.symm)
  have ZZ21 : n0 ≤ h21.size := Nat.le_trans ZZ11 E21.1
  have ne_oa_b21 : oa ≠ b21 := Nat.ne_of_lt (Nat.lt_of_lt_of_le fa12.lt (Nat.le_of_eq g21.symm))
  have ne_b2_b21 : b2 ≠ b21 := Nat.ne_of_lt (Nat.lt_of_lt_of_le fa20.lt (Nat.le_of_eq g21.symm))
  have fa22 := fa12.ext E21
  have fa23 := fa14.ext E21
  have fa24 := fa15.ext E21
  have fa25 := fa16.ext E21
  have fa26 := fa17.ext E21
  have fa27 := fa18.ext E21
  have fa28 := fa19.ext E21
  have fa29 := fa20.ext E21
  have fa30 := Fw11.ext E21
  have AA21 : own_AJ Z h21 b21 (4 : Int32) [(0 : Int64), (0 : Int64), (0 : Int64), (0 : Int64)] := own_AJ.new A21 (by decide)
  refine own_go (T' := T21) (f' := (mkF m 15 #[.val (.ref oa)] [(.ref b21), (.ref oa)])) ?_ (st21)
  obtain ⟨T31, h31, X31, e31, W31, st31⟩ := putF X21 hx hZ hown (host := "") (Or.inl (hw _ (List.mem_of_getElem? (i := 13) rfl))) Via.refl e21 fa23 fa22 (Or.inl (hw _ (List.mem_of_getElem? (i := 14) rfl))) (hw _ (List.mem_of_getElem? (i := 1) rfl)) (ty := (.array .long)) (by decide) rfl rfl (g := (mkF m 15 #[.val (.ref oa)] [(.ref b21), (.ref oa)])) rfl rfl (hb hby own_d1_15)
  have fa32 := fa22.wr W31
  have fa34 := fa24.other W31 (Or.inr (slot_ne (Or.inl (hw _ (List.mem_of_getElem? (i := 16) rfl))) (Or.inl (hw _ (List.mem_of_getElem? (i := 14) rfl))) (by decide) (t := (.array .int)) (t' := (.array .long)) (by decide) (by decide)))
  have fa35 := fa25.other W31 (Or.inr (slot_ne (Or.inl (hw _ (List.mem_of_getElem? (i := 18) rfl))) (Or.inl (hw _ (List.mem_of_getElem? (i := 14) rfl))) (by decide) (t := (.array .int)) (t' := (.array .long)) (by decide) (by decide)))
  have fa36 := fa26.other W31 (Or.inr (slot_ne (Or.inl (hw _ (List.mem_of_getElem? (i := 25) rfl))) (Or.inl (hw _ (List.mem_of_getElem? (i := 14) rfl))) (by decide) (t := .int) (t' := (.array .long)) (by decide) (by decide)))
  have fa37 := fa27.other W31 (Or.inr (slot_ne (Or.inl (hw _ (List.mem_of_getElem? (i := 27) rfl))) (Or.inl (hw _ (List.mem_of_getElem? (i := 14) rfl))) (by decide) (t := .long) (t' := (.array .long)) (by decide) (by decide)))
  have fa38 := fa28.other W31 (Or.inr (slot_ne (Or.inl (hw _ (List.mem_of_getElem? (i := 29) rfl))) (Or.inl (hw _ (List.mem_of_getElem? (i := 14) rfl))) (by decide) (t := .long) (t' := (.array .long)) (by decide) (by decide)))
  have fa39 := fa29.other W31 (Ne.symm ne_oa_b2)
  have fa40 := fa30.other W31 (Or.inr (slot_ne (Or.inl (hw _ (List.mem_of_getElem? (i := 11) rfl))) (Or.inl (hw _ (List.mem_of_getElem? (i := 14) rfl))) (by decide) (t := (.array .int)) (t' := (.array .long)) (by decide) (by decide)))
  have fa41 := AA21.other W31 (Ne.symm ne_oa_b21)
  have Fw31 := fa23.same W31
  have N31 := Fr.snoc X31 N11 g_oa
  have KK31 : Keep h0 h31 [oa] := KK21.wr W31 (Or.inl (List.mem_of_getElem? (i := 0) rfl))
  have ZZ31 : n0 ≤ h31.size := Nat.le_trans ZZ21 (Keep.of_wr W31).1
  refine own_go (T' := T31) (f' := (mkF m 18 #[.val (.ref oa)] [])) ?_ (st31)
  refine own_go (T' := T31) (f' := (mkF m 19 #[.val (.ref oa)] [(.ref oa)])) ?_ (fun _ k => XS.aloadN X31.here hx rfl (hb hby own_d1_18) rfl rfl k)
  refine own_go (T' := T31) (f' := (mkF m 20 #[.val (.ref oa)] [(.int (4 : Int32)), (.ref oa)])) ?_ (fun _ k => XS.iconst X31.here hx rfl (hb hby own_d1_19) k)
  obtain ⟨T42, h42, k42, X42, e42, E42, A42, st42⟩ := newP X31 hx hZ (hw _ (List.mem_of_getElem? (i := 9) rfl)) e31 (g := (mkF m 20 #[.val (.ref oa)] [(.int (4 : Int32)), (.ref oa)])) rfl (hb hby own_d1_20) rfl (by decide) (cap := 4) (by decide) (by decide) (by decide) (by decide)
  obtain ⟨b42, g42⟩ : ∃ z, z = h31.size := ⟨_, rfl⟩
  rw [← g42] at A42 st42
  have KK42 : Keep h0 h42 [oa] := KK31.ext E42
  have g_b42 : n0 ≤ b42 := Nat.le_trans ZZ31 (Nat.le_of_eq g42.symm)
  have sz_b42 : h0.size ≤ b42 := Nat.le_trans KK31.1 (Nat.le_of_eq g42.symm)
  have ZZ42 : n0 ≤ h42.size := Nat.le_trans ZZ31 E42.1
  have ne_oa_b42 : oa ≠ b42 := Nat.ne_of_lt (Nat.lt_of_lt_of_le fa32.lt (Nat.le_of_eq g42.symm))
  have ne_b2_b42 : b2 ≠ b42 := Nat.ne_of_lt (Nat.lt_of_lt_of_le fa39.lt (Nat.le_of_eq g42.symm))
  have ne_b21_b42 : b21 ≠ b42 := Nat.ne_of_lt (Nat.lt_of_lt_of_le fa41.lt (Nat.le_of_eq g42.symm))
  have fa43 := fa32.ext E42
  have fa44 := fa34.ext E42
  have fa45 := fa35.ext E42
  have fa46 := fa36.ext E42
  have fa47 := fa37.ext E42
  have fa48 := fa38.ext E42
  have fa49 := fa39.ext E42
  have fa50 := fa40.ext E42
  have fa51 := fa41.ext E42
  have fa52 := Fw31.ext E42
  have AA42 : own_AI Z h42 b42 .int (4 : Int32) [(0 : Int32), (0 : Int32), (0 : Int32), (0 : Int32)] := own_AI.new A42 (by decide) rfl
  refine own_go (T' := T42) (f' := (mkF m 22 #[.val (.ref oa)] [(.ref b42), (.ref oa)])) ?_ (st42)
  obtain ⟨T53, h53, X53, e53, W53, st53⟩ := putF X42 hx hZ hown (host := "") (Or.inl (hw _ (List.mem_of_getElem? (i := 15) rfl))) Via.refl e42 fa44 fa43 (Or.inl (hw _ (List.mem_of_getElem? (i := 16) rfl))) (hw _ (List.mem_of_getElem? (i := 1) rfl)) (ty := (.array .int)) (by decide) rfl rfl (g := (mkF m 22 #[.val (.ref oa)] [(.ref b42), (.ref oa)])) rfl rfl (hb hby own_d1_22)
  have fa54 := fa43.wr W53
  have fa56 := fa45.other W53 (Or.inr (slot_ne (Or.inl (hw _ (List.mem_of_getElem? (i := 18) rfl))) (Or.inl (hw _ (List.mem_of_getElem? (i := 16) rfl))) (by decide) (t := (.array .int)) (t' := (.array .int)) (by decide) (by decide)))
  have fa57 := fa46.other W53 (Or.inr (slot_ne (Or.inl (hw _ (List.mem_of_getElem? (i := 25) rfl))) (Or.inl (hw _ (List.mem_of_getElem? (i := 16) rfl))) (by decide) (t := .int) (t' := (.array .int)) (by decide) (by decide)))
  have fa58 := fa47.other W53 (Or.inr (slot_ne (Or.inl (hw _ (List.mem_of_getElem? (i := 27) rfl))) (Or.inl (hw _ (List.mem_of_getElem? (i := 16) rfl))) (by decide) (t := .long) (t' := (.array .int)) (by decide) (by decide)))
  have fa59 := fa48.other W53 (Or.inr (slot_ne (Or.inl (hw _ (List.mem_of_getElem? (i := 29) rfl))) (Or.inl (hw _ (List.mem_of_getElem? (i := 16) rfl))) (by decide) (t := .long) (t' := (.array .int)) (by decide) (by decide)))
  have fa60 := fa49.other W53 (Ne.symm ne_oa_b2)
  have fa61 := fa50.other W53 (Or.inr (slot_ne (Or.inl (hw _ (List.mem_of_getElem? (i := 11) rfl))) (Or.inl (hw _ (List.mem_of_getElem? (i := 16) rfl))) (by decide) (t := (.array .int)) (t' := (.array .int)) (by decide) (by decide)))
  have fa62 := fa51.other W53 (Ne.symm ne_oa_b21)
  have fa63 := fa52.other W53 (Or.inr (slot_ne (Or.inl (hw _ (List.mem_of_getElem? (i := 14) rfl))) (Or.inl (hw _ (List.mem_of_getElem? (i := 16) rfl))) (by decide) (t := (.array .long)) (t' := (.array .int)) (by decide) (by decide)))
  have fa64 := AA42.other W53 (Ne.symm ne_oa_b42)
  have Fw53 := fa44.same W53
  have N53 := Fr.snoc X53 N31 g_oa
  have KK53 : Keep h0 h53 [oa] := KK42.wr W53 (Or.inl (List.mem_of_getElem? (i := 0) rfl))
  have ZZ53 : n0 ≤ h53.size := Nat.le_trans ZZ42 (Keep.of_wr W53).1
  refine own_go (T' := T53) (f' := (mkF m 25 #[.val (.ref oa)] [])) ?_ (st53)
  refine own_go (T' := T53) (f' := (mkF m 26 #[.val (.ref oa)] [(.ref oa)])) ?_ (fun _ k => XS.aloadN X53.here hx rfl (hb hby own_d1_25) rfl rfl k)
  refine own_go (T' := T53) (f' := (mkF m 28 #[.val (.ref oa)] [(.int (16 : Int32)), (.ref oa)])) ?_ (fun _ k => XS.bipush X53.here hx rfl (hb hby own_d1_26) k)
  obtain ⟨T65, h65, k65, X65, e65, E65, A65, st65⟩ := newP X53 hx hZ (hw _ (List.mem_of_getElem? (i := 9) rfl)) e53 (g := (mkF m 28 #[.val (.ref oa)] [(.int (16 : Int32)), (.ref oa)])) rfl (hb hby own_d1_28) rfl (by decide) (cap := 16) (by decide) (by decide) (by decide) (by decide)
  obtain ⟨b65, g65⟩ : ∃ z, z = h53.size := ⟨_, rfl⟩
  rw [← g65] at A65 st65
  have KK65 : Keep h0 h65 [oa] := KK53.ext E65
  have g_b65 : n0 ≤ b65 := Nat.le_trans ZZ53 (Nat.le_of_eq g65.symm)
  have sz_b65 : h0.size ≤ b65 := Nat.le_trans KK53.1 (Nat.le_of_eq g65.symm)
  have ZZ65 : n0 ≤ h65.size := Nat.le_trans ZZ53 E65.1
  have ne_oa_b65 : oa ≠ b65 := Nat.ne_of_lt (Nat.lt_of_lt_of_le fa54.lt (Nat.le_of_eq g65.symm))
  have ne_b2_b65 : b2 ≠ b65 := Nat.ne_of_lt (Nat.lt_of_lt_of_le fa60.lt (Nat.le_of_eq g65.symm))
  have ne_b21_b65 : b21 ≠ b65 := Nat.ne_of_lt (Nat.lt_of_lt_of_le fa62.lt (Nat.le_of_eq g65.symm))
  have ne_b42_b65 : b42 ≠ b65 := Nat.ne_of_lt (Nat.lt_of_lt_of_le fa64.lt (Nat.le_of_eq g65.symm))
  have fa66 := fa54.ext E65
  have fa67 := fa56.ext E65
  have fa68 := fa57.ext E65
  have fa69 := fa58.ext E65
  have fa70 := fa59.ext E65
  have fa71 := fa60.ext E65
  have fa72 := fa61.ext E65
  have fa73 := fa62.ext E65
  have fa74 := fa63.ext E65
  have fa75 := fa64.ext E65
  have fa76 := Fw53.ext E65
  have AA65 : own_AI Z h65 b65 .int (16 : Int32) [(0 : Int32), (0 : Int32), (0 : Int32), (0 : Int32), (0 : Int32), (0 : Int32), (0 : Int32), (0 : Int32), (0 : Int32), (0 : Int32), (0 : Int32), (0 : Int32), (0 : Int32), (0 : Int32), (0 : Int32), (0 : Int32)] := own_AI.new A65 (by decide) rfl
  refine own_go (T' := T65) (f' := (mkF m 30 #[.val (.ref oa)] [(.ref b65), (.ref oa)])) ?_ (st65)
  obtain ⟨T77, h77, X77, e77, W77, st77⟩ := putF X65 hx hZ hown (host := "") (Or.inl (hw _ (List.mem_of_getElem? (i := 17) rfl))) Via.refl e65 fa67 fa66 (Or.inl (hw _ (List.mem_of_getElem? (i := 18) rfl))) (hw _ (List.mem_of_getElem? (i := 1) rfl)) (ty := (.array .int)) (by decide) rfl rfl (g := (mkF m 30 #[.val (.ref oa)] [(.ref b65), (.ref oa)])) rfl rfl (hb hby own_d1_30)
  have fa78 := fa66.wr W77
  have fa80 := fa68.other W77 (Or.inr (slot_ne (Or.inl (hw _ (List.mem_of_getElem? (i := 25) rfl))) (Or.inl (hw _ (List.mem_of_getElem? (i := 18) rfl))) (by decide) (t := .int) (t' := (.array .int)) (by decide) (by decide)))
  have fa81 := fa69.other W77 (Or.inr (slot_ne (Or.inl (hw _ (List.mem_of_getElem? (i := 27) rfl))) (Or.inl (hw _ (List.mem_of_getElem? (i := 18) rfl))) (by decide) (t := .long) (t' := (.array .int)) (by decide) (by decide)))
  have fa82 := fa70.other W77 (Or.inr (slot_ne (Or.inl (hw _ (List.mem_of_getElem? (i := 29) rfl))) (Or.inl (hw _ (List.mem_of_getElem? (i := 18) rfl))) (by decide) (t := .long) (t' := (.array .int)) (by decide) (by decide)))
  have fa83 := fa71.other W77 (Ne.symm ne_oa_b2)
  have fa84 := fa72.other W77 (Or.inr (slot_ne (Or.inl (hw _ (List.mem_of_getElem? (i := 11) rfl))) (Or.inl (hw _ (List.mem_of_getElem? (i := 18) rfl))) (by decide) (t := (.array .int)) (t' := (.array .int)) (by decide) (by decide)))
  have fa85 := fa73.other W77 (Ne.symm ne_oa_b21)
  have fa86 := fa74.other W77 (Or.inr (slot_ne (Or.inl (hw _ (List.mem_of_getElem? (i := 14) rfl))) (Or.inl (hw _ (List.mem_of_getElem? (i := 18) rfl))) (by decide) (t := (.array .long)) (t' := (.array .int)) (by decide) (by decide)))
  have fa87 := fa75.other W77 (Ne.symm ne_oa_b42)
  have fa88 := fa76.other W77 (Or.inr (slot_ne (Or.inl (hw _ (List.mem_of_getElem? (i := 16) rfl))) (Or.inl (hw _ (List.mem_of_getElem? (i := 18) rfl))) (by decide) (t := (.array .int)) (t' := (.array .int)) (by decide) (by decide)))
  have fa89 := AA65.other W77 (Ne.symm ne_oa_b65)
  have Fw77 := fa67.same W77
  have N77 := Fr.snoc X77 N53 g_oa
  have KK77 : Keep h0 h77 [oa] := KK65.wr W77 (Or.inl (List.mem_of_getElem? (i := 0) rfl))
  have ZZ77 : n0 ≤ h77.size := Nat.le_trans ZZ65 (Keep.of_wr W77).1
  refine own_go (T' := T77) (f' := (mkF m 33 #[.val (.ref oa)] [])) ?_ (st77)
  obtain ⟨fs90, hr90, hrun90, hended90, hW90, hsame90⟩ := X77.leave (v := none) (fun _ => rfl)
  refine ⟨_, ⟨_, hrun90, hended90, _, _, rfl, ?_, ⟨_, rfl⟩, hW90, hsame90.mono (by decide) (by decide)⟩, fun _ k => (X77.returnOut hx Bd.returns (hb hby own_d1_33) hr90).trans k⟩
  show own_Q1 Z oa h0 n0 _ T77.heap _
  rw [e77]
  exact ⟨b2, b21, b42, b65, rfl, N77, KK77, sz_b2, sz_b21, sz_b42, sz_b65, ne_oa_b2, ne_oa_b21, ne_oa_b42, ne_oa_b65, ne_b2_b21, ne_b2_b42, ne_b2_b65, ne_b21_b42, ne_b21_b65, ne_b42_b65, fa84, fa86, fa88, Fw77, fa80, fa81, fa82, fa83, fa85, fa87, fa89⟩
theorem own_d2_0 : decode prog_66_method_4_code 0 = .ok (.aload_n 0, 1) := by decide +kernel
theorem own_d2_1 : decode prog_66_method_4_code 1 = .ok (.getfield 23, 3) := by decide +kernel
theorem own_d2_4 : decode prog_66_method_4_code 4 = .ok (.ireturn, 1) := by decide +kernel
def own_f2 (nd : Int32) : Int32 := nd
theorem own_ef2 (m : MethodId) (oa : Addr) : entryFrame m #[(.ref oa)] 1 = mkF m 0 #[.val (.ref oa)] [] := by first | (simp [entryFrame, mkF, argsToLocals, Value.category]; done) | rfl
abbrev own_room2 : Room := { frames := 0, cells := 0, slots := 0, locals := 0 }
def own_Q2 (Z : State) (oa : Addr) (nd : Int32) (h0 : Heap) (n0 : Nat) (v : Option Value) (h : Heap) (L : List Loc) : Prop := v = some (.int (own_f2 nd)) ∧ Fr n0 L ∧ h = h0
set_option maxRecDepth 65536 in
set_option maxHeartbeats 40000000 in
theorem own_rm2 (l : Launch) (Z : State) (a0 : Array Value) (hw : ∀ d ∈ tables_1, d.before a0 Z = true) (ws : List Jvm.Cond) (oa : Addr) (nd : Int32) (h0 : Heap) (n0 : Nat) (Z0 : n0 ≤ h0.size) (F__distinct_oa : Fld Z h0 oa "com/example/monitorgen/monitorgen/trace/Instant" "_distinct" "I" (.int nd)) :
    MetFree l (⟨"com/example/monitorgen/monitorgen/trace/Instant", "distinct", "()I"⟩ : MethodName) (head1 (Jvm.Cond.code (⟨"com/example/monitorgen/monitorgen/trace/Instant", "distinct", "()I"⟩ : MethodName) prog_66_method_4_code 1 (some .int) :: ws) own_room2) (fun a U => a = #[(.ref oa)] ∧ Z.Warmed39 U.vm ∧ U.heap = h0) (fun _ _ _ _ _ => True) (fun _ U o U' => ∃ v L, o = .returned v ∧ own_Q2 Z oa nd h0 n0 v U'.heap L ∧ FrameEnd U o U' L own_room2.cells own_room2.slots) := by
  refine MetFree.of_bodySF (plainFor_of_name own_pn0) hisR ?_
  intro p e s m args below meth c s₁ Bd hml0 hP hK
  obtain ⟨rfl, hZ, hh⟩ := hP
  have hx := Bd.exec
  have hby := Bd.bytes
  have hml : c.maxLocals = 1 := hml0
  have hown : s.vm.findClass "com/example/monitorgen/monitorgen/trace/Instant" = some m.cls := findClass_of_methodNamed Bd.named
  have hnm := (name_of_methodNamed Bd.named Bd.method).1
  have X0 : Stand p l e own_room2 s m #[(.ref oa)] below meth c s₁ [] 0 0 := Stand.of_body Bd
  have e0 : s₁.heap = h0 := by rw [← hh, Bd.state]; rfl
  have N0 := Fr.nil n0
  refine own_out (Q := fun o U' => ∃ v L, o = .returned v ∧ own_Q2 Z oa nd h0 n0 v U'.heap L ∧ FrameEnd s o U' L own_room2.cells own_room2.slots) ?_
  refine own_go (T' := s₁) (f' := (mkF m 0 #[.val (.ref oa)] [])) ?_ (fun _ k => castTop (own_ef2 m oa) k)
  refine own_go (T' := s₁) (f' := (mkF m 1 #[.val (.ref oa)] [(.ref oa)])) ?_ (fun _ k => XS.aloadN X0.here hx rfl (hb hby own_d2_0) rfl rfl k)
  obtain ⟨T1, X1, e1, st1⟩ := getF X0 hx hZ hown (host := "") (Or.inl (hw _ (List.mem_of_getElem? (i := 24) rfl))) Via.refl e0 F__distinct_oa (g := (mkF m 1 #[.val (.ref oa)] [(.ref oa)])) rfl rfl (hb hby own_d2_1)
  refine own_go (T' := T1) (f' := (mkF m 4 #[.val (.ref oa)] [(.int nd)])) ?_ (st1)
  obtain ⟨fs2, hr2, hrun2, hended2, hW2, hsame2⟩ := X1.leave (v := some (.int nd)) (fun h => by rw [Bd.returns] at h; cases h)
  refine ⟨_, ⟨_, hrun2, hended2, _, _, rfl, ?_, ⟨_, rfl⟩, hW2, hsame2.mono (by decide) (by decide)⟩, fun _ k => (retI X1 hx Bd.returns (hb hby own_d2_4) hr2).trans k⟩
  show own_Q2 Z oa nd h0 n0 _ T1.heap _
  rw [e1]
  exact ⟨rfl, N0, rfl⟩
theorem own_d3_0 : decode prog_66_method_7_code 0 = .ok (.aload_n 0, 1) := by decide +kernel
theorem own_d3_1 : decode prog_66_method_7_code 1 = .ok (.getfield 27, 3) := by decide +kernel
theorem own_d3_4 : decode prog_66_method_7_code 4 = .ok (.lreturn, 1) := by decide +kernel
def own_f3 (tt : Int64) : Int64 := tt
theorem own_ef3 (m : MethodId) (oa : Addr) : entryFrame m #[(.ref oa)] 1 = mkF m 0 #[.val (.ref oa)] [] := by first | (simp [entryFrame, mkF, argsToLocals, Value.category]; done) | rfl
abbrev own_room3 : Room := { frames := 0, cells := 0, slots := 0, locals := 0 }
def own_Q3 (Z : State) (oa : Addr) (tt : Int64) (h0 : Heap) (n0 : Nat) (v : Option Value) (h : Heap) (L : List Loc) : Prop := v = some (.long (own_f3 tt)) ∧ Fr n0 L ∧ h = h0
set_option maxRecDepth 65536 in
set_option maxHeartbeats 40000000 in
theorem own_rm3 (l : Launch) (Z : State) (a0 : Array Value) (hw : ∀ d ∈ tables_1, d.before a0 Z = true) (ws : List Jvm.Cond) (oa : Addr) (tt : Int64) (h0 : Heap) (n0 : Nat) (Z0 : n0 ≤ h0.size) (F__total_oa : Fld Z h0 oa "com/example/monitorgen/monitorgen/trace/Instant" "_total" "J" (.long tt)) :
    MetFree l (⟨"com/example/monitorgen/monitorgen/trace/Instant", "events", "()J"⟩ : MethodName) (head1 (Jvm.Cond.code (⟨"com/example/monitorgen/monitorgen/trace/Instant", "events", "()J"⟩ : MethodName) prog_66_method_7_code 1 (some .long) :: ws) own_room3) (fun a U => a = #[(.ref oa)] ∧ Z.Warmed39 U.vm ∧ U.heap = h0) (fun _ _ _ _ _ => True) (fun _ U o U' => ∃ v L, o = .returned v ∧ own_Q3 Z oa tt h0 n0 v U'.heap L ∧ FrameEnd U o U' L own_room3.cells own_room3.slots) := by
  refine MetFree.of_bodySF (plainFor_of_name own_pn0) hisR ?_
  intro p e s m args below meth c s₁ Bd hml0 hP hK
  obtain ⟨rfl, hZ, hh⟩ := hP
  have hx := Bd.exec
  have hby := Bd.bytes
  have hml : c.maxLocals = 1 := hml0
  have hown : s.vm.findClass "com/example/monitorgen/monitorgen/trace/Instant" = some m.cls := findClass_of_methodNamed Bd.named
  have hnm := (name_of_methodNamed Bd.named Bd.method).1
  have X0 : Stand p l e own_room3 s m #[(.ref oa)] below meth c s₁ [] 0 0 := Stand.of_body Bd
  have e0 : s₁.heap = h0 := by rw [← hh, Bd.state]; rfl
  have N0 := Fr.nil n0
  refine own_out (Q := fun o U' => ∃ v L, o = .returned v ∧ own_Q3 Z oa tt h0 n0 v U'.heap L ∧ FrameEnd s o U' L own_room3.cells own_room3.slots) ?_
  refine own_go (T' := s₁) (f' := (mkF m 0 #[.val (.ref oa)] [])) ?_ (fun _ k => castTop (own_ef3 m oa) k)
  refine own_go (T' := s₁) (f' := (mkF m 1 #[.val (.ref oa)] [(.ref oa)])) ?_ (fun _ k => XS.aloadN X0.here hx rfl (hb hby own_d3_0) rfl rfl k)
  obtain ⟨T1, X1, e1, st1⟩ := getF X0 hx hZ hown (host := "") (Or.inl (hw _ (List.mem_of_getElem? (i := 26) rfl))) Via.refl e0 F__total_oa (g := (mkF m 1 #[.val (.ref oa)] [(.ref oa)])) rfl rfl (hb hby own_d3_1)
  refine own_go (T' := T1) (f' := (mkF m 4 #[.val (.ref oa)] [(.long tt)])) ?_ (st1)
  obtain ⟨fs2, hr2, hrun2, hended2, hW2, hsame2⟩ := X1.leave (v := some (.long tt)) (fun h => by rw [Bd.returns] at h; cases h)
  refine ⟨_, ⟨_, hrun2, hended2, _, _, rfl, ?_, ⟨_, rfl⟩, hW2, hsame2.mono (by decide) (by decide)⟩, fun _ k => (own_retJ X1 hx Bd.returns (hb hby own_d3_4) hr2).trans k⟩
  show own_Q3 Z oa tt h0 n0 _ T1.heap _
  rw [e1]
  exact ⟨rfl, N0, rfl⟩
theorem own_d4_0 : decode prog_66_method_8_code 0 = .ok (.aload_n 0, 1) := by decide +kernel
theorem own_d4_1 : decode prog_66_method_8_code 1 = .ok (.getfield 31, 3) := by decide +kernel
theorem own_d4_4 : decode prog_66_method_8_code 4 = .ok (.lreturn, 1) := by decide +kernel
def own_f4 (ig : Int64) : Int64 := ig
theorem own_ef4 (m : MethodId) (oa : Addr) : entryFrame m #[(.ref oa)] 1 = mkF m 0 #[.val (.ref oa)] [] := by first | (simp [entryFrame, mkF, argsToLocals, Value.category]; done) | rfl
abbrev own_room4 : Room := { frames := 0, cells := 0, slots := 0, locals := 0 }
def own_Q4 (Z : State) (oa : Addr) (ig : Int64) (h0 : Heap) (n0 : Nat) (v : Option Value) (h : Heap) (L : List Loc) : Prop := v = some (.long (own_f4 ig)) ∧ Fr n0 L ∧ h = h0
set_option maxRecDepth 65536 in
set_option maxHeartbeats 40000000 in
theorem own_rm4 (l : Launch) (Z : State) (a0 : Array Value) (hw : ∀ d ∈ tables_1, d.before a0 Z = true) (ws : List Jvm.Cond) (oa : Addr) (ig : Int64) (h0 : Heap) (n0 : Nat) (Z0 : n0 ≤ h0.size) (F__ignored_oa : Fld Z h0 oa "com/example/monitorgen/monitorgen/trace/Instant" "_ignored" "J" (.long ig)) :
    MetFree l (⟨"com/example/monitorgen/monitorgen/trace/Instant", "ignored", "()J"⟩ : MethodName) (head1 (Jvm.Cond.code (⟨"com/example/monitorgen/monitorgen/trace/Instant", "ignored", "()J"⟩ : MethodName) prog_66_method_8_code 1 (some .long) :: ws) own_room4) (fun a U => a = #[(.ref oa)] ∧ Z.Warmed39 U.vm ∧ U.heap = h0) (fun _ _ _ _ _ => True) (fun _ U o U' => ∃ v L, o = .returned v ∧ own_Q4 Z oa ig h0 n0 v U'.heap L ∧ FrameEnd U o U' L own_room4.cells own_room4.slots) := by
  refine MetFree.of_bodySF (plainFor_of_name own_pn0) hisR ?_
  intro p e s m args below meth c s₁ Bd hml0 hP hK
  obtain ⟨rfl, hZ, hh⟩ := hP
  have hx := Bd.exec
  have hby := Bd.bytes
  have hml : c.maxLocals = 1 := hml0
  have hown : s.vm.findClass "com/example/monitorgen/monitorgen/trace/Instant" = some m.cls := findClass_of_methodNamed Bd.named
  have hnm := (name_of_methodNamed Bd.named Bd.method).1
  have X0 : Stand p l e own_room4 s m #[(.ref oa)] below meth c s₁ [] 0 0 := Stand.of_body Bd
  have e0 : s₁.heap = h0 := by rw [← hh, Bd.state]; rfl
  have N0 := Fr.nil n0
  refine own_out (Q := fun o U' => ∃ v L, o = .returned v ∧ own_Q4 Z oa ig h0 n0 v U'.heap L ∧ FrameEnd s o U' L own_room4.cells own_room4.slots) ?_
  refine own_go (T' := s₁) (f' := (mkF m 0 #[.val (.ref oa)] [])) ?_ (fun _ k => castTop (own_ef4 m oa) k)
  refine own_go (T' := s₁) (f' := (mkF m 1 #[.val (.ref oa)] [(.ref oa)])) ?_ (fun _ k => XS.aloadN X0.here hx rfl (hb hby own_d4_0) rfl rfl k)
  obtain ⟨T1, X1, e1, st1⟩ := getF X0 hx hZ hown (host := "") (Or.inl (hw _ (List.mem_of_getElem? (i := 28) rfl))) Via.refl e0 F__ignored_oa (g := (mkF m 1 #[.val (.ref oa)] [(.ref oa)])) rfl rfl (hb hby own_d4_1)
  refine own_go (T' := T1) (f' := (mkF m 4 #[.val (.ref oa)] [(.long ig)])) ?_ (st1)
  obtain ⟨fs2, hr2, hrun2, hended2, hW2, hsame2⟩ := X1.leave (v := some (.long ig)) (fun h => by rw [Bd.returns] at h; cases h)
  refine ⟨_, ⟨_, hrun2, hended2, _, _, rfl, ?_, ⟨_, rfl⟩, hW2, hsame2.mono (by decide) (by decide)⟩, fun _ k => (own_retJ X1 hx Bd.returns (hb hby own_d4_4) hr2).trans k⟩
  show own_Q4 Z oa ig h0 n0 _ T1.heap _
  rw [e1]
  exact ⟨rfl, N0, rfl⟩
theorem own_d5_0 : decode prog_66_method_9_code 0 = .ok (.aload_n 0, 1) := by decide +kernel
theorem own_d5_1 : decode prog_66_method_9_code 1 = .ok (.getfield 27, 3) := by decide +kernel
theorem own_d5_4 : decode prog_66_method_9_code 4 = .ok (.lconst 0, 1) := by decide +kernel
theorem own_d5_5 : decode prog_66_method_9_code 5 = .ok (.lcmp, 1) := by decide +kernel
theorem own_d5_6 : decode prog_66_method_9_code 6 = .ok (.ifCond .ne 16, 3) := by decide +kernel
theorem own_d5_9 : decode prog_66_method_9_code 9 = .ok (.aload_n 0, 1) := by decide +kernel
theorem own_d5_10 : decode prog_66_method_9_code 10 = .ok (.getfield 31, 3) := by decide +kernel
theorem own_d5_13 : decode prog_66_method_9_code 13 = .ok (.lconst 0, 1) := by decide +kernel
theorem own_d5_14 : decode prog_66_method_9_code 14 = .ok (.lcmp, 1) := by decide +kernel
theorem own_d5_15 : decode prog_66_method_9_code 15 = .ok (.ifCond .ne 7, 3) := by decide +kernel
theorem own_d5_18 : decode prog_66_method_9_code 18 = .ok (.iconst 1, 1) := by decide +kernel
theorem own_d5_19 : decode prog_66_method_9_code 19 = .ok (.goto 4, 3) := by decide +kernel
theorem own_d5_22 : decode prog_66_method_9_code 22 = .ok (.iconst 0, 1) := by decide +kernel
theorem own_d5_23 : decode prog_66_method_9_code 23 = .ok (.ireturn, 1) := by decide +kernel
def own_v5_6_s0 (tt : Int64) (ig : Int64) : Int32 := (if (lcmpW tt (0 : Int64)) = (0 : Int32) then (if (lcmpW ig (0 : Int64)) = (0 : Int32) then (1 : Int32) else (0 : Int32)) else (0 : Int32))
def own_f5 (tt : Int64) (ig : Int64) : Int32 := (own_v5_6_s0 tt ig)
theorem own_b5_6_s0 (tt : Int64) (ig : Int64) : (own_v5_6_s0 tt ig) &&& 1 = (own_v5_6_s0 tt ig) := (own_ite_bool (own_ite_bool (by decide) (by decide)) (by decide))
theorem own_bf5 (tt : Int64) (ig : Int64) : (own_f5 tt ig) &&& 1 = (own_f5 tt ig) := (own_b5_6_s0 tt ig)
theorem own_ef5 (m : MethodId) (oa : Addr) : entryFrame m #[(.ref oa)] 1 = mkF m 0 #[.val (.ref oa)] [] := by first | (simp [entryFrame, mkF, argsToLocals, Value.category]; done) | rfl
abbrev own_room5 : Room := { frames := 0, cells := 0, slots := 0, locals := 0 }
def own_Q5 (Z : State) (oa : Addr) (tt : Int64) (ig : Int64) (h0 : Heap) (n0 : Nat) (v : Option Value) (h : Heap) (L : List Loc) : Prop := v = some (.int (own_f5 tt ig)) ∧ Fr n0 L ∧ h = h0
set_option maxRecDepth 65536 in
set_option maxHeartbeats 40000000 in
theorem own_rm5 (l : Launch) (Z : State) (a0 : Array Value) (hw : ∀ d ∈ tables_1, d.before a0 Z = true) (ws : List Jvm.Cond) (oa : Addr) (tt : Int64) (ig : Int64) (h0 : Heap) (n0 : Nat) (Z0 : n0 ≤ h0.size) (F__total_oa : Fld Z h0 oa "com/example/monitorgen/monitorgen/trace/Instant" "_total" "J" (.long tt)) (F__ignored_oa : Fld Z h0 oa "com/example/monitorgen/monitorgen/trace/Instant" "_ignored" "J" (.long ig)) :
    MetFree l (⟨"com/example/monitorgen/monitorgen/trace/Instant", "isEmpty", "()Z"⟩ : MethodName) (head1 (Jvm.Cond.code (⟨"com/example/monitorgen/monitorgen/trace/Instant", "isEmpty", "()Z"⟩ : MethodName) prog_66_method_9_code 1 (some .boolean) :: ws) own_room5) (fun a U => a = #[(.ref oa)] ∧ Z.Warmed39 U.vm ∧ U.heap = h0) (fun _ _ _ _ _ => True) (fun _ U o U' => ∃ v L, o = .returned v ∧ own_Q5 Z oa tt ig h0 n0 v U'.heap L ∧ FrameEnd U o U' L own_room5.cells own_room5.slots) := by
  refine MetFree.of_bodySF (plainFor_of_name own_pn0) hisR ?_
  intro p e s m args below meth c s₁ Bd hml0 hP hK
  obtain ⟨rfl, hZ, hh⟩ := hP
  have hx := Bd.exec
  have hby := Bd.bytes
  have hml : c.maxLocals = 1 := hml0
  have hown : s.vm.findClass "com/example/monitorgen/monitorgen/trace/Instant" = some m.cls := findClass_of_methodNamed Bd.named
  have hnm := (name_of_methodNamed Bd.named Bd.method).1
  have X0 : Stand p l e own_room5 s m #[(.ref oa)] below meth c s₁ [] 0 0 := Stand.of_body Bd
  have e0 : s₁.heap = h0 := by rw [← hh, Bd.state]; rfl
  have N0 := Fr.nil n0
  refine own_out (Q := fun o U' => ∃ v L, o = .returned v ∧ own_Q5 Z oa tt ig h0 n0 v U'.heap L ∧ FrameEnd s o U' L own_room5.cells own_room5.slots) ?_
  refine own_go (T' := s₁) (f' := (mkF m 0 #[.val (.ref oa)] [])) ?_ (fun _ k => castTop (own_ef5 m oa) k)
  refine own_go (T' := s₁) (f' := (mkF m 1 #[.val (.ref oa)] [(.ref oa)])) ?_ (fun _ k => XS.aloadN X0.here hx rfl (hb hby own_d5_0) rfl rfl k)
  obtain ⟨T1, X1, e1, st1⟩ := getF X0 hx hZ hown (host := "") (Or.inl (hw _ (List.mem_of_getElem? (i := 26) rfl))) Via.refl e0 F__total_oa (g := (mkF m 1 #[.val (.ref oa)] [(.ref oa)])) rfl rfl (hb hby own_d5_1)
  refine own_go (T' := T1) (f' := (mkF m 4 #[.val (.ref oa)] [(.long tt)])) ?_ (st1)
  refine own_go (T' := T1) (f' := (mkF m 5 #[.val (.ref oa)] [(.long (0 : Int64)), (.long tt)])) ?_ (fun _ k => XS.lconst X1.here hx rfl (hb hby own_d5_4) k)
  refine own_go (T' := T1) (f' := (mkF m 6 #[.val (.ref oa)] [(.int (lcmpW tt (0 : Int64)))])) ?_ (fun _ k => XS.lcmp X1.here hx rfl (hb hby own_d5_5) rfl k)
  obtain ⟨_, ⟨T2, L2, rfl, X2, e2, N2⟩, mg2⟩ : own_Goes p.tables e below (fun uu => ∃ (T' : State) (L' : List Loc), uu = T'.setTop (mkF m 23 #[.val (.ref oa)] [(.int (own_v5_6_s0 tt ig))]) ∧ Stand p l e own_room5 s m #[(.ref oa)] below meth c T' L' 0 0 ∧ T'.heap = h0 ∧ Fr n0 L') T1 (mkF m 6 #[.val (.ref oa)] [(.int (lcmpW tt (0 : Int64)))]) := by
    by_cases hc6_3 : (lcmpW tt (0 : Int64)) = (0 : Int32)
    · refine own_go (T' := T1) (f' := (mkF m 9 #[.val (.ref oa)] [])) ?_ (fun _ k => XS.ifNo X1.here hx rfl (hb hby own_d5_6) rfl ((if0 _ _).trans (teq hc6_3).2) k)
      refine own_go (T' := T1) (f' := (mkF m 10 #[.val (.ref oa)] [(.ref oa)])) ?_ (fun _ k => XS.aloadN X1.here hx rfl (hb hby own_d5_9) rfl rfl k)
      obtain ⟨T4, X4, e4, st4⟩ := getF X1 hx hZ hown (host := "") (Or.inl (hw _ (List.mem_of_getElem? (i := 28) rfl))) Via.refl e1 F__ignored_oa (g := (mkF m 10 #[.val (.ref oa)] [(.ref oa)])) rfl rfl (hb hby own_d5_10)
      refine own_go (T' := T4) (f' := (mkF m 13 #[.val (.ref oa)] [(.long ig)])) ?_ (st4)
      refine own_go (T' := T4) (f' := (mkF m 14 #[.val (.ref oa)] [(.long (0 : Int64)), (.long ig)])) ?_ (fun _ k => XS.lconst X4.here hx rfl (hb hby own_d5_13) k)
      refine own_go (T' := T4) (f' := (mkF m 15 #[.val (.ref oa)] [(.int (lcmpW ig (0 : Int64)))])) ?_ (fun _ k => XS.lcmp X4.here hx rfl (hb hby own_d5_14) rfl k)
      by_cases hc15_5 : (lcmpW ig (0 : Int64)) = (0 : Int32)
      · refine own_go (T' := T4) (f' := (mkF m 18 #[.val (.ref oa)] [])) ?_ (fun _ k => XS.ifNo X4.here hx rfl (hb hby own_d5_15) rfl ((if0 _ _).trans (teq hc15_5).2) k)
        refine own_go (T' := T4) (f' := (mkF m 19 #[.val (.ref oa)] [(.int (1 : Int32))])) ?_ (fun _ k => XS.iconst X4.here hx rfl (hb hby own_d5_18) k)
        refine own_go (T' := T4) (f' := (mkF m 23 #[.val (.ref oa)] [(.int (1 : Int32))])) ?_ (fun _ k => XS.goto X4.here hx rfl (pc0 := 19) (pc' := 23) rfl (hb hby own_d5_19) (by decide) (by decide) k)
        have em6 : (own_v5_6_s0 tt ig) = (1 : Int32) := (Eq.trans (if_pos hc6_3) (if_pos hc15_5))
        exact ⟨_, ⟨T4, _, (by rw [em6]), X4, e4, N0⟩, fun _ k => k⟩
      · refine own_go (T' := T4) (f' := (mkF m 22 #[.val (.ref oa)] [])) ?_ (fun _ k => XS.ifYes X4.here hx rfl (pc0 := 15) (pc' := 22) rfl (hb hby own_d5_15) rfl ((if0 _ _).trans (feq hc15_5).2) (by decide) (by decide) k)
        refine own_go (T' := T4) (f' := (mkF m 23 #[.val (.ref oa)] [(.int (0 : Int32))])) ?_ (fun _ k => XS.iconst X4.here hx rfl (hb hby own_d5_22) k)
        have em7 : (own_v5_6_s0 tt ig) = (0 : Int32) := (Eq.trans (if_pos hc6_3) (if_neg hc15_5))
        exact ⟨_, ⟨T4, _, (by rw [em7]), X4, e4, N0⟩, fun _ k => k⟩
    · refine own_go (T' := T1) (f' := (mkF m 22 #[.val (.ref oa)] [])) ?_ (fun _ k => XS.ifYes X1.here hx rfl (pc0 := 6) (pc' := 22) rfl (hb hby own_d5_6) rfl ((if0 _ _).trans (feq hc6_3).2) (by decide) (by decide) k)
      refine own_go (T' := T1) (f' := (mkF m 23 #[.val (.ref oa)] [(.int (0 : Int32))])) ?_ (fun _ k => XS.iconst X1.here hx rfl (hb hby own_d5_22) k)
      have em8 : (own_v5_6_s0 tt ig) = (0 : Int32) := (if_neg hc6_3)
      exact ⟨_, ⟨T1, _, (by rw [em8]), X1, e1, N0⟩, fun _ k => k⟩
  refine own_go (T' := T2) (f' := (mkF m 23 #[.val (.ref oa)] [(.int (own_v5_6_s0 tt ig))])) ?_ (mg2)
  obtain ⟨fs9, hr9, hrun9, hended9, hW9, hsame9⟩ := X2.leave (v := some (.int (own_v5_6_s0 tt ig))) (fun h => by rw [Bd.returns] at h; cases h)
  refine ⟨_, ⟨_, hrun9, hended9, _, _, rfl, ?_, ⟨_, rfl⟩, hW9, hsame9.mono (by decide) (by decide)⟩, fun _ k => (own_retZ X2 hx Bd.returns (own_b5_6_s0 tt ig) (hb hby own_d5_23) hr9).trans k⟩
  show own_Q5 Z oa tt ig h0 n0 _ T2.heap _
  rw [e2]
  exact ⟨rfl, N2, rfl⟩
theorem own_d6_0 : decode prog_66_method_5_code 0 = .ok (.aload_n 0, 1) := by decide +kernel
theorem own_d6_1 : decode prog_66_method_5_code 1 = .ok (.getfield 7, 3) := by decide +kernel
theorem own_d6_4 : decode prog_66_method_5_code 4 = .ok (.iload_n 1, 1) := by decide +kernel
theorem own_d6_5 : decode prog_66_method_5_code 5 = .ok (.iaload, 1) := by decide +kernel
theorem own_d6_6 : decode prog_66_method_5_code 6 = .ok (.ireturn, 1) := by decide +kernel
def own_f6 (LE : List Int32) : Int32 := (LE.getD ((0 : Int32)).toNatClampNeg 0)
theorem own_ef6 (m : MethodId) (oa : Addr) : entryFrame m #[(.ref oa), (.int (0 : Int32))] 2 = mkF m 0 #[.val (.ref oa), .val (.int (0 : Int32))] [] := by first | (simp [entryFrame, mkF, argsToLocals, Value.category]; done) | rfl
abbrev own_room6 : Room := { frames := 0, cells := 0, slots := 0, locals := 0 }
def own_Q6 (Z : State) (oa : Addr) (oe : Addr) (LE : List Int32) (h0 : Heap) (n0 : Nat) (v : Option Value) (h : Heap) (L : List Loc) : Prop := v = some (.int (own_f6 LE)) ∧ Fr n0 L ∧ h = h0
set_option maxRecDepth 65536 in
set_option maxHeartbeats 40000000 in
theorem own_rm6 (l : Launch) (Z : State) (a0 : Array Value) (hw : ∀ d ∈ tables_1, d.before a0 Z = true) (ws : List Jvm.Cond) (oa : Addr) (oe : Addr) (LE : List Int32) (h0 : Heap) (n0 : Nat) (Z0 : n0 ≤ h0.size) (F__events_oa : Fld Z h0 oa "com/example/monitorgen/monitorgen/trace/Instant" "_events" "[I" (.ref oe)) (A_oe : own_AI Z h0 oe .int (4 : Int32) LE) :
    MetFree l (⟨"com/example/monitorgen/monitorgen/trace/Instant", "event", "(I)I"⟩ : MethodName) (head1 (Jvm.Cond.code (⟨"com/example/monitorgen/monitorgen/trace/Instant", "event", "(I)I"⟩ : MethodName) prog_66_method_5_code 2 (some .int) :: ws) own_room6) (fun a U => a = #[(.ref oa), (.int (0 : Int32))] ∧ Z.Warmed39 U.vm ∧ U.heap = h0) (fun _ _ _ _ _ => True) (fun _ U o U' => ∃ v L, o = .returned v ∧ own_Q6 Z oa oe LE h0 n0 v U'.heap L ∧ FrameEnd U o U' L own_room6.cells own_room6.slots) := by
  refine MetFree.of_bodySF (plainFor_of_name own_pn0) hisR ?_
  intro p e s m args below meth c s₁ Bd hml0 hP hK
  obtain ⟨rfl, hZ, hh⟩ := hP
  have hx := Bd.exec
  have hby := Bd.bytes
  have hml : c.maxLocals = 2 := hml0
  have hown : s.vm.findClass "com/example/monitorgen/monitorgen/trace/Instant" = some m.cls := findClass_of_methodNamed Bd.named
  have hnm := (name_of_methodNamed Bd.named Bd.method).1
  have X0 : Stand p l e own_room6 s m #[(.ref oa), (.int (0 : Int32))] below meth c s₁ [] 0 0 := Stand.of_body Bd
  have e0 : s₁.heap = h0 := by rw [← hh, Bd.state]; rfl
  have N0 := Fr.nil n0
  refine own_out (Q := fun o U' => ∃ v L, o = .returned v ∧ own_Q6 Z oa oe LE h0 n0 v U'.heap L ∧ FrameEnd s o U' L own_room6.cells own_room6.slots) ?_
  refine own_go (T' := s₁) (f' := (mkF m 0 #[.val (.ref oa), .val (.int (0 : Int32))] [])) ?_ (fun _ k => castTop (own_ef6 m oa) k)
  refine own_go (T' := s₁) (f' := (mkF m 1 #[.val (.ref oa), .val (.int (0 : Int32))] [(.ref oa)])) ?_ (fun _ k => XS.aloadN X0.here hx rfl (hb hby own_d6_0) rfl rfl k)
  obtain ⟨T1, X1, e1, st1⟩ := getF X0 hx hZ hown (host := "") (Or.inl (hw _ (List.mem_of_getElem? (i := 10) rfl))) Via.refl e0 F__events_oa (g := (mkF m 1 #[.val (.ref oa), .val (.int (0 : Int32))] [(.ref oa)])) rfl rfl (hb hby own_d6_1)
  refine own_go (T' := T1) (f' := (mkF m 4 #[.val (.ref oa), .val (.int (0 : Int32))] [(.ref oe)])) ?_ (st1)
  refine own_go (T' := T1) (f' := (mkF m 5 #[.val (.ref oa), .val (.int (0 : Int32))] [(.int (0 : Int32)), (.ref oe)])) ?_ (fun _ k => XS.iloadN X1.here hx rfl (hb hby own_d6_4) rfl  k)
  refine own_go (T' := T1) (f' := (mkF m 6 #[.val (.ref oa), .val (.int (0 : Int32))] [(.int (LE.getD ((0 : Int32)).toNatClampNeg 0))])) ?_ (own_ldI X1 hx hZ e1 A_oe (j := (0 : Int32)) ⟨by decide, by decide⟩ (g := (mkF m 5 #[.val (.ref oa), .val (.int (0 : Int32))] [(.int (0 : Int32)), (.ref oe)])) rfl rfl (hb hby own_d6_5))
  obtain ⟨fs2, hr2, hrun2, hended2, hW2, hsame2⟩ := X1.leave (v := some (.int (LE.getD ((0 : Int32)).toNatClampNeg 0))) (fun h => by rw [Bd.returns] at h; cases h)
  refine ⟨_, ⟨_, hrun2, hended2, _, _, rfl, ?_, ⟨_, rfl⟩, hW2, hsame2.mono (by decide) (by decide)⟩, fun _ k => (retI X1 hx Bd.returns (hb hby own_d6_6) hr2).trans k⟩
  show own_Q6 Z oa oe LE h0 n0 _ T1.heap _
  rw [e1]
  exact ⟨rfl, N0, rfl⟩
theorem own_d7_0 : decode prog_66_method_6_code 0 = .ok (.aload_n 0, 1) := by decide +kernel
theorem own_d7_1 : decode prog_66_method_6_code 1 = .ok (.getfield 13, 3) := by decide +kernel
theorem own_d7_4 : decode prog_66_method_6_code 4 = .ok (.iload_n 1, 1) := by decide +kernel
theorem own_d7_5 : decode prog_66_method_6_code 5 = .ok (.laload, 1) := by decide +kernel
theorem own_d7_6 : decode prog_66_method_6_code 6 = .ok (.lreturn, 1) := by decide +kernel
def own_f7 (LC : List Int64) : Int64 := (LC.getD ((0 : Int32)).toNatClampNeg (0 : Int64))
theorem own_ef7 (m : MethodId) (oa : Addr) : entryFrame m #[(.ref oa), (.int (0 : Int32))] 2 = mkF m 0 #[.val (.ref oa), .val (.int (0 : Int32))] [] := by first | (simp [entryFrame, mkF, argsToLocals, Value.category]; done) | rfl
abbrev own_room7 : Room := { frames := 0, cells := 0, slots := 0, locals := 0 }
def own_Q7 (Z : State) (oa : Addr) (oc : Addr) (LC : List Int64) (h0 : Heap) (n0 : Nat) (v : Option Value) (h : Heap) (L : List Loc) : Prop := v = some (.long (own_f7 LC)) ∧ Fr n0 L ∧ h = h0
set_option maxRecDepth 65536 in
set_option maxHeartbeats 40000000 in
theorem own_rm7 (l : Launch) (Z : State) (a0 : Array Value) (hw : ∀ d ∈ tables_1, d.before a0 Z = true) (ws : List Jvm.Cond) (oa : Addr) (oc : Addr) (LC : List Int64) (h0 : Heap) (n0 : Nat) (Z0 : n0 ≤ h0.size) (F__counts_oa : Fld Z h0 oa "com/example/monitorgen/monitorgen/trace/Instant" "_counts" "[J" (.ref oc)) (A_oc : own_AJ Z h0 oc (4 : Int32) LC) :
    MetFree l (⟨"com/example/monitorgen/monitorgen/trace/Instant", "count", "(I)J"⟩ : MethodName) (head1 (Jvm.Cond.code (⟨"com/example/monitorgen/monitorgen/trace/Instant", "count", "(I)J"⟩ : MethodName) prog_66_method_6_code 2 (some .long) :: ws) own_room7) (fun a U => a = #[(.ref oa), (.int (0 : Int32))] ∧ Z.Warmed39 U.vm ∧ U.heap = h0) (fun _ _ _ _ _ => True) (fun _ U o U' => ∃ v L, o = .returned v ∧ own_Q7 Z oa oc LC h0 n0 v U'.heap L ∧ FrameEnd U o U' L own_room7.cells own_room7.slots) := by
  refine MetFree.of_bodySF (plainFor_of_name own_pn0) hisR ?_
  intro p e s m args below meth c s₁ Bd hml0 hP hK
  obtain ⟨rfl, hZ, hh⟩ := hP
  have hx := Bd.exec
  have hby := Bd.bytes
  have hml : c.maxLocals = 2 := hml0
  have hown : s.vm.findClass "com/example/monitorgen/monitorgen/trace/Instant" = some m.cls := findClass_of_methodNamed Bd.named
  have hnm := (name_of_methodNamed Bd.named Bd.method).1
  have X0 : Stand p l e own_room7 s m #[(.ref oa), (.int (0 : Int32))] below meth c s₁ [] 0 0 := Stand.of_body Bd
  have e0 : s₁.heap = h0 := by rw [← hh, Bd.state]; rfl
  have N0 := Fr.nil n0
  refine own_out (Q := fun o U' => ∃ v L, o = .returned v ∧ own_Q7 Z oa oc LC h0 n0 v U'.heap L ∧ FrameEnd s o U' L own_room7.cells own_room7.slots) ?_
  refine own_go (T' := s₁) (f' := (mkF m 0 #[.val (.ref oa), .val (.int (0 : Int32))] [])) ?_ (fun _ k => castTop (own_ef7 m oa) k)
  refine own_go (T' := s₁) (f' := (mkF m 1 #[.val (.ref oa), .val (.int (0 : Int32))] [(.ref oa)])) ?_ (fun _ k => XS.aloadN X0.here hx rfl (hb hby own_d7_0) rfl rfl k)
  obtain ⟨T1, X1, e1, st1⟩ := getF X0 hx hZ hown (host := "") (Or.inl (hw _ (List.mem_of_getElem? (i := 13) rfl))) Via.refl e0 F__counts_oa (g := (mkF m 1 #[.val (.ref oa), .val (.int (0 : Int32))] [(.ref oa)])) rfl rfl (hb hby own_d7_1)
  refine own_go (T' := T1) (f' := (mkF m 4 #[.val (.ref oa), .val (.int (0 : Int32))] [(.ref oc)])) ?_ (st1)
  refine own_go (T' := T1) (f' := (mkF m 5 #[.val (.ref oa), .val (.int (0 : Int32))] [(.int (0 : Int32)), (.ref oc)])) ?_ (fun _ k => XS.iloadN X1.here hx rfl (hb hby own_d7_4) rfl  k)
  refine own_go (T' := T1) (f' := (mkF m 6 #[.val (.ref oa), .val (.int (0 : Int32))] [(.long (LC.getD ((0 : Int32)).toNatClampNeg (0 : Int64)))])) ?_ (own_ldJ X1 hx hZ e1 A_oc (j := (0 : Int32)) ⟨by decide, by decide⟩ (g := (mkF m 5 #[.val (.ref oa), .val (.int (0 : Int32))] [(.int (0 : Int32)), (.ref oc)])) rfl rfl (hb hby own_d7_5))
  obtain ⟨fs2, hr2, hrun2, hended2, hW2, hsame2⟩ := X1.leave (v := some (.long (LC.getD ((0 : Int32)).toNatClampNeg (0 : Int64)))) (fun h => by rw [Bd.returns] at h; cases h)
  refine ⟨_, ⟨_, hrun2, hended2, _, _, rfl, ?_, ⟨_, rfl⟩, hW2, hsame2.mono (by decide) (by decide)⟩, fun _ k => (own_retJ X1 hx Bd.returns (hb hby own_d7_6) hr2).trans k⟩
  show own_Q7 Z oa oc LC h0 n0 _ T1.heap _
  rw [e1]
  exact ⟨rfl, N0, rfl⟩
theorem own_pn1 : plainName "com/example/monitorgen/monitorgen/trace/InstantClearPinLaw" = true := by first | (simp [plainName, overriddenIn]; done) | decide +kernel
theorem own_d8_0 : decode method_2_code 0 = .ok (.iload_n 0, 1) := by decide +kernel
theorem own_d8_1 : decode method_2_code 1 = .ok (.ifCond .ge 7, 3) := by decide +kernel
theorem own_d8_4 : decode method_2_code 4 = .ok (.iconst (-1), 1) := by decide +kernel
theorem own_d8_5 : decode method_2_code 5 = .ok (.goto 4, 3) := by decide +kernel
theorem own_d8_8 : decode method_2_code 8 = .ok (.iload_n 0, 1) := by decide +kernel
theorem own_d8_9 : decode method_2_code 9 = .ok (.ireturn, 1) := by decide +kernel
def own_v8_1_s0 (xa : Int32) : Int32 := (if xa < (0 : Int32) then (-1 : Int32) else xa)
def own_f8 (xa : Int32) : Int32 := (own_v8_1_s0 xa)
theorem own_ef8 (m : MethodId) (xa : Int32) : entryFrame m #[(.int xa)] 1 = mkF m 0 #[.val (.int xa)] [] := by first | (simp [entryFrame, mkF, argsToLocals, Value.category]; done) | rfl
abbrev own_room8 : Room := { frames := 0, cells := 0, slots := 0, locals := 0 }
def own_Q8 (Z : State) (xa : Int32) (h0 : Heap) (n0 : Nat) (v : Option Value) (h : Heap) (L : List Loc) : Prop := v = some (.int (own_f8 xa)) ∧ Fr n0 L ∧ h = h0
set_option maxRecDepth 65536 in
set_option maxHeartbeats 40000000 in
theorem own_rm8 (l : Launch) (Z : State) (a0 : Array Value) (hw : ∀ d ∈ tables_1, d.before a0 Z = true) (ws : List Jvm.Cond) (xa : Int32) (h0 : Heap) (n0 : Nat) (Z0 : n0 ≤ h0.size) :
    MetFree l (⟨"com/example/monitorgen/monitorgen/trace/InstantClearPinLaw", "ev", "(I)I"⟩ : MethodName) (head1 (Jvm.Cond.code (⟨"com/example/monitorgen/monitorgen/trace/InstantClearPinLaw", "ev", "(I)I"⟩ : MethodName) method_2_code 1 (some .int) :: ws) own_room8) (fun a U => a = #[(.int xa)] ∧ Z.Warmed39 U.vm ∧ U.heap = h0) (fun _ _ _ _ _ => True) (fun _ U o U' => ∃ v L, o = .returned v ∧ own_Q8 Z xa h0 n0 v U'.heap L ∧ FrameEnd U o U' L own_room8.cells own_room8.slots) := by
  refine MetFree.of_bodySF (plainFor_of_name own_pn1) hisR ?_
  intro p e s m args below meth c s₁ Bd hml0 hP hK
  obtain ⟨rfl, hZ, hh⟩ := hP
  have hx := Bd.exec
  have hby := Bd.bytes
  have hml : c.maxLocals = 1 := hml0
  have hown : s.vm.findClass "com/example/monitorgen/monitorgen/trace/InstantClearPinLaw" = some m.cls := findClass_of_methodNamed Bd.named
  have hnm := (name_of_methodNamed Bd.named Bd.method).1
  have X0 : Stand p l e own_room8 s m #[(.int xa)] below meth c s₁ [] 0 0 := Stand.of_body Bd
  have e0 : s₁.heap = h0 := by rw [← hh, Bd.state]; rfl
  have N0 := Fr.nil n0
  refine own_out (Q := fun o U' => ∃ v L, o = .returned v ∧ own_Q8 Z xa h0 n0 v U'.heap L ∧ FrameEnd s o U' L own_room8.cells own_room8.slots) ?_
  refine own_go (T' := s₁) (f' := (mkF m 0 #[.val (.int xa)] [])) ?_ (fun _ k => castTop (own_ef8 m xa) k)
  refine own_go (T' := s₁) (f' := (mkF m 1 #[.val (.int xa)] [(.int xa)])) ?_ (fun _ k => XS.iloadN X0.here hx rfl (hb hby own_d8_0) rfl  k)
  obtain ⟨_, ⟨T1, L1, rfl, X1, e1, N1⟩, mg1⟩ : own_Goes p.tables e below (fun uu => ∃ (T' : State) (L' : List Loc), uu = T'.setTop (mkF m 9 #[.val (.int xa)] [(.int (own_v8_1_s0 xa))]) ∧ Stand p l e own_room8 s m #[(.int xa)] below meth c T' L' 0 0 ∧ T'.heap = h0 ∧ Fr n0 L') s₁ (mkF m 1 #[.val (.int xa)] [(.int xa)]) := by
    by_cases hc1_2 : xa < (0 : Int32)
    · refine own_go (T' := s₁) (f' := (mkF m 4 #[.val (.int xa)] [])) ?_ (fun _ k => XS.ifNo X0.here hx rfl (hb hby own_d8_1) rfl ((if0 _ _).trans (tlt hc1_2).2.1) k)
      refine own_go (T' := s₁) (f' := (mkF m 5 #[.val (.int xa)] [(.int (-1 : Int32))])) ?_ (fun _ k => XS.iconst X0.here hx rfl (hb hby own_d8_4) k)
      refine own_go (T' := s₁) (f' := (mkF m 9 #[.val (.int xa)] [(.int (-1 : Int32))])) ?_ (fun _ k => XS.goto X0.here hx rfl (pc0 := 5) (pc' := 9) rfl (hb hby own_d8_5) (by decide) (by decide) k)
      have em3 : (own_v8_1_s0 xa) = (-1 : Int32) := (if_pos hc1_2)
      exact ⟨_, ⟨s₁, _, (by rw [em3]), X0, e0, N0⟩, fun _ k => k⟩
    · refine own_go (T' := s₁) (f' := (mkF m 8 #[.val (.int xa)] [])) ?_ (fun _ k => XS.ifYes X0.here hx rfl (pc0 := 1) (pc' := 8) rfl (hb hby own_d8_1) rfl ((if0 _ _).trans (flt hc1_2).2.1) (by decide) (by decide) k)
      refine own_go (T' := s₁) (f' := (mkF m 9 #[.val (.int xa)] [(.int xa)])) ?_ (fun _ k => XS.iloadN X0.here hx rfl (hb hby own_d8_8) rfl  k)
      have em4 : (own_v8_1_s0 xa) = xa := (if_neg hc1_2)
      exact ⟨_, ⟨s₁, _, (by rw [em4]), X0, e0, N0⟩, fun _ k => k⟩
  refine own_go (T' := T1) (f' := (mkF m 9 #[.val (.int xa)] [(.int (own_v8_1_s0 xa))])) ?_ (mg1)
  obtain ⟨fs5, hr5, hrun5, hended5, hW5, hsame5⟩ := X1.leave (v := some (.int (own_v8_1_s0 xa))) (fun h => by rw [Bd.returns] at h; cases h)
  refine ⟨_, ⟨_, hrun5, hended5, _, _, rfl, ?_, ⟨_, rfl⟩, hW5, hsame5.mono (by decide) (by decide)⟩, fun _ k => (retI X1 hx Bd.returns (hb hby own_d8_9) hr5).trans k⟩
  show own_Q8 Z xa h0 n0 _ T1.heap _
  rw [e1]
  exact ⟨rfl, N1, rfl⟩
theorem own_open {b : Nat} {nd : Int32} {LO LS : List Int32} (hv : own_inv b nd LO LS) (hb : b ≤ 3) : ∃ d : Nat, nd.toInt = d ∧ d ≤ b ∧ (∀ i, i < d → ¬ LO.getD i 0 < 0 ∧ LO.getD i 0 < (16 : Int32)) ∧ ∀ k, k < 16 → LS.getD k 0 ≠ 0 → ∃ i, i < d ∧ LO.getD i 0 = Int32.ofNat k ∧ LS.getD k 0 = Int32.ofNat (i + 1) := by
  obtain ⟨d, rfl, h2, h3, h4⟩ := hv
  exact ⟨d, own_ofNat_toInt (by omega), h2, h3, h4⟩
theorem own_so {b : Nat} {nd : Int32} {LO LS : List Int32} (hv : own_inv b nd LO LS) (hb : b ≤ 3) {j : Int32} (h : j < nd) (h0 : ¬ j < 0 := by decide) : ¬ LO.getD j.toNatClampNeg 0 < 0 ∧ LO.getD j.toNatClampNeg 0 < (16 : Int32) := by
  obtain ⟨d, h1, h2, h3, h4⟩ := own_open hv hb
  rw [own_lt32] at h h0
  rw [show (0 : Int32).toInt = 0 from rfl] at h0
  have n := own_nat32 (x := j) (by omega)
  exact h3 _ (by omega)
theorem own_nd3 {b : Nat} {nd : Int32} {LO LS : List Int32} (hv : own_inv b nd LO LS) (hb : b ≤ 3) : ¬ (3 : Int32) < nd := by
  obtain ⟨d, h1, h2, h3, h4⟩ := own_open hv hb
  rw [own_lt32, h1, show (3 : Int32).toInt = 3 from rfl]; omega
theorem own_zero16 (L : List Int32) (hl : L.length = 16) (h : ∀ k, k < 16 → L.getD k 0 = 0) : L = [(0 : Int32), (0 : Int32), (0 : Int32), (0 : Int32), (0 : Int32), (0 : Int32), (0 : Int32), (0 : Int32), (0 : Int32), (0 : Int32), (0 : Int32), (0 : Int32), (0 : Int32), (0 : Int32), (0 : Int32), (0 : Int32)] := by
  have e : L = List.replicate 16 0 := by
    apply List.ext_getElem (by simp [hl])
    intro k h1 h2
    have q := h k (by omega)
    rw [List.getD_eq_getElem?_getD, List.getElem?_eq_getElem h1] at q
    rw [List.getElem_replicate]; exact q
  rw [e]; rfl
theorem own_getD_set (L : List Int32) (a k : Nat) (x : Int32) : (L.set a x).getD k 0 = if a = k ∧ k < L.length then x else L.getD k 0 := by
  simp only [List.getD_eq_getElem?_getD]
  by_cases h : a = k
  · subst h
    by_cases q : a < L.length
    · rw [List.getElem?_set_self q, if_pos ⟨rfl, q⟩]; rfl
    · rw [if_neg (fun z => q z.2), List.getElem?_eq_none (by simp; omega), List.getElem?_eq_none (by omega)]
  · rw [List.getElem?_set_ne h, if_neg (fun z => h z.1)]
theorem own_getD_set0 (L : List Int32) (a k : Nat) : (L.set a 0).getD k 0 = if a = k then 0 else L.getD k 0 := by
  rw [own_getD_set]
  by_cases h : a = k
  · rw [if_pos h]
    by_cases q : k < L.length
    · rw [if_pos ⟨h, q⟩]
    · rw [if_neg (fun z => q z.2), List.getD_eq_getElem?_getD, List.getElem?_eq_none (by omega)]; rfl
  · rw [if_neg h, if_neg (fun z => h z.1)]
theorem own_natof {x : Int32} {k : Nat} (hk : k < 16) (e : x = Int32.ofNat k) : x.toNatClampNeg = k := by rw [e]; exact own_at_ofNat (by omega)

theorem own_clear0 {Z : State} {h : Heap} {os : Addr} {bb : Nat} {nd : Int32} {LO LS : List Int32} (hv : own_inv bb nd LO LS) (hb : bb ≤ 3) (A : own_AI Z h os .int (16 : Int32) LS) (h0 : ¬ ((0 : Int32) < nd)) : LS = [(0 : Int32), (0 : Int32), (0 : Int32), (0 : Int32), (0 : Int32), (0 : Int32), (0 : Int32), (0 : Int32), (0 : Int32), (0 : Int32), (0 : Int32), (0 : Int32), (0 : Int32), (0 : Int32), (0 : Int32), (0 : Int32)] := by
  obtain ⟨d, h1, h2, h3, h4⟩ := own_open hv hb
  refine own_zero16 _ A.1 (fun k hk => ?_)
  apply Classical.byContradiction; intro q
  obtain ⟨i, hi, -, -⟩ := h4 k hk q
  rw [own_lt32, h1, show (0 : Int32).toInt = 0 from rfl] at h0; omega
theorem own_clear1 {Z : State} {h : Heap} {os : Addr} {bb : Nat} {nd : Int32} {LO LS : List Int32} (hv : own_inv bb nd LO LS) (hb : bb ≤ 3) (A : own_AI Z h os .int (16 : Int32) LS) (h0 : (0 : Int32) < nd) (h1 : ¬ ((1 : Int32) < nd)) : (LS.set ((LO.getD ((0 : Int32)).toNatClampNeg 0)).toNatClampNeg (0 : Int32)) = [(0 : Int32), (0 : Int32), (0 : Int32), (0 : Int32), (0 : Int32), (0 : Int32), (0 : Int32), (0 : Int32), (0 : Int32), (0 : Int32), (0 : Int32), (0 : Int32), (0 : Int32), (0 : Int32), (0 : Int32), (0 : Int32)] := by
  obtain ⟨d, h1_, h2_, h3_, h4_⟩ := own_open hv hb
  rw [own_lt32, h1_] at h0 h1
  rw [show (0 : Int32).toInt = 0 from rfl] at h0
  rw [show (1 : Int32).toInt = 1 from rfl] at h1
  refine own_zero16 _ (by simp; exact A.1) (fun k hk => ?_)
  rw [own_getD_set0]
  split
  · rfl
  · rename_i n0
    apply Classical.byContradiction; intro q
    obtain ⟨i, hi, e, -⟩ := h4_ k hk q
    obtain rfl : i = 0 := by omega
    exact n0 (own_natof hk e)
theorem own_clear2 {Z : State} {h : Heap} {os : Addr} {bb : Nat} {nd : Int32} {LO LS : List Int32} (hv : own_inv bb nd LO LS) (hb : bb ≤ 3) (A : own_AI Z h os .int (16 : Int32) LS) (h0 : (0 : Int32) < nd) (h1 : (1 : Int32) < nd) (h2 : ¬ ((2 : Int32) < nd)) : ((LS.set ((LO.getD ((0 : Int32)).toNatClampNeg 0)).toNatClampNeg (0 : Int32)).set ((LO.getD ((1 : Int32)).toNatClampNeg 0)).toNatClampNeg (0 : Int32)) = [(0 : Int32), (0 : Int32), (0 : Int32), (0 : Int32), (0 : Int32), (0 : Int32), (0 : Int32), (0 : Int32), (0 : Int32), (0 : Int32), (0 : Int32), (0 : Int32), (0 : Int32), (0 : Int32), (0 : Int32), (0 : Int32)] := by
  obtain ⟨d, h1_, h2_, h3_, h4_⟩ := own_open hv hb
  rw [own_lt32, h1_] at h0 h1 h2
  rw [show (1 : Int32).toInt = 1 from rfl] at h1
  rw [show (2 : Int32).toInt = 2 from rfl] at h2
  refine own_zero16 _ (by simp; exact A.1) (fun k hk => ?_)
  rw [own_getD_set0]
  split
  · rfl
  · rename_i n1
    rw [own_getD_set0]
    split
    · rfl
    · rename_i n0
      apply Classical.byContradiction; intro q
      obtain ⟨i, hi, e, -⟩ := h4_ k hk q
      have : i = 0 ∨ i = 1 := by omega
      rcases this with rfl | rfl
      · exact n0 (own_natof hk e)
      · exact n1 (own_natof hk e)
theorem own_clear3 {Z : State} {h : Heap} {os : Addr} {bb : Nat} {nd : Int32} {LO LS : List Int32} (hv : own_inv bb nd LO LS) (hb : bb ≤ 3) (A : own_AI Z h os .int (16 : Int32) LS) (h0 : (0 : Int32) < nd) (h1 : (1 : Int32) < nd) (h2 : (2 : Int32) < nd) (h3 : ¬ ((3 : Int32) < nd)) : (((LS.set ((LO.getD ((0 : Int32)).toNatClampNeg 0)).toNatClampNeg (0 : Int32)).set ((LO.getD ((1 : Int32)).toNatClampNeg 0)).toNatClampNeg (0 : Int32)).set ((LO.getD ((2 : Int32)).toNatClampNeg 0)).toNatClampNeg (0 : Int32)) = [(0 : Int32), (0 : Int32), (0 : Int32), (0 : Int32), (0 : Int32), (0 : Int32), (0 : Int32), (0 : Int32), (0 : Int32), (0 : Int32), (0 : Int32), (0 : Int32), (0 : Int32), (0 : Int32), (0 : Int32), (0 : Int32)] := by
  obtain ⟨d, h1_, h2_, h3_, h4_⟩ := own_open hv hb
  refine own_zero16 _ (by simp; exact A.1) (fun k hk => ?_)
  rw [own_getD_set0]
  split
  · rfl
  · rename_i n2
    rw [own_getD_set0]
    split
    · rfl
    · rename_i n1
      rw [own_getD_set0]
      split
      · rfl
      · rename_i n0
        apply Classical.byContradiction; intro q
        obtain ⟨i, hi, e, -⟩ := h4_ k hk q
        have : i = 0 ∨ i = 1 ∨ i = 2 := by omega
        rcases this with rfl | rfl | rfl
        · exact n0 (own_natof hk e)
        · exact n1 (own_natof hk e)
        · exact n2 (own_natof hk e)
theorem own_d9_0 : decode prog_66_method_2_code 0 = .ok (.iconst 0, 1) := by decide +kernel
theorem own_d9_1 : decode prog_66_method_2_code 1 = .ok (.istore_n 1, 1) := by decide +kernel
theorem own_d9_2 : decode prog_66_method_2_code 2 = .ok (.iload_n 1, 1) := by decide +kernel
theorem own_d9_3 : decode prog_66_method_2_code 3 = .ok (.aload_n 0, 1) := by decide +kernel
theorem own_d9_4 : decode prog_66_method_2_code 4 = .ok (.getfield 23, 3) := by decide +kernel
theorem own_d9_7 : decode prog_66_method_2_code 7 = .ok (.if_icmp .ge 21, 3) := by decide +kernel
theorem own_d9_10 : decode prog_66_method_2_code 10 = .ok (.aload_n 0, 1) := by decide +kernel
theorem own_d9_11 : decode prog_66_method_2_code 11 = .ok (.getfield 20, 3) := by decide +kernel
theorem own_d9_14 : decode prog_66_method_2_code 14 = .ok (.aload_n 0, 1) := by decide +kernel
theorem own_d9_15 : decode prog_66_method_2_code 15 = .ok (.getfield 17, 3) := by decide +kernel
theorem own_d9_18 : decode prog_66_method_2_code 18 = .ok (.iload_n 1, 1) := by decide +kernel
theorem own_d9_19 : decode prog_66_method_2_code 19 = .ok (.iaload, 1) := by decide +kernel
theorem own_d9_20 : decode prog_66_method_2_code 20 = .ok (.iconst 0, 1) := by decide +kernel
theorem own_d9_21 : decode prog_66_method_2_code 21 = .ok (.iastore, 1) := by decide +kernel
theorem own_d9_22 : decode prog_66_method_2_code 22 = .ok (.iinc 1 1, 3) := by decide +kernel
theorem own_d9_25 : decode prog_66_method_2_code 25 = .ok (.goto (-23), 3) := by decide +kernel
theorem own_d9_28 : decode prog_66_method_2_code 28 = .ok (.aload_n 0, 1) := by decide +kernel
theorem own_d9_29 : decode prog_66_method_2_code 29 = .ok (.iconst 0, 1) := by decide +kernel
theorem own_d9_30 : decode prog_66_method_2_code 30 = .ok (.putfield 23, 3) := by decide +kernel
theorem own_d9_33 : decode prog_66_method_2_code 33 = .ok (.aload_n 0, 1) := by decide +kernel
theorem own_d9_34 : decode prog_66_method_2_code 34 = .ok (.lconst 0, 1) := by decide +kernel
theorem own_d9_35 : decode prog_66_method_2_code 35 = .ok (.putfield 27, 3) := by decide +kernel
theorem own_d9_38 : decode prog_66_method_2_code 38 = .ok (.aload_n 0, 1) := by decide +kernel
theorem own_d9_39 : decode prog_66_method_2_code 39 = .ok (.lconst 0, 1) := by decide +kernel
theorem own_d9_40 : decode prog_66_method_2_code 40 = .ok (.putfield 31, 3) := by decide +kernel
theorem own_d9_43 : decode prog_66_method_2_code 43 = .ok (.return_, 1) := by decide +kernel
theorem own_ef9 (m : MethodId) (oa : Addr) : entryFrame m #[(.ref oa)] 2 = mkF m 0 #[.val (.ref oa), .unset] [] := by first | (simp [entryFrame, mkF, argsToLocals, Value.category]; done) | rfl
abbrev own_room9 : Room := { frames := 0, cells := 0, slots := 0, locals := 0 }
def own_Q9 (Z : State) (oa : Addr) (oe : Addr) (oc : Addr) (oo : Addr) (os : Addr) (nd : Int32) (tt : Int64) (ig : Int64) (LE : List Int32) (LC : List Int64) (LO : List Int32) (LS : List Int32) (bb : Nat) (h0 : Heap) (n0 : Nat) (v : Option Value) (h : Heap) (L : List Loc) : Prop := v = none ∧ Fr n0 L ∧ Keep h0 h [oa, os] ∧ Fld Z h oa "com/example/monitorgen/monitorgen/trace/Instant" "_events" "[I" (.ref oe) ∧ Fld Z h oa "com/example/monitorgen/monitorgen/trace/Instant" "_counts" "[J" (.ref oc) ∧ Fld Z h oa "com/example/monitorgen/monitorgen/trace/Instant" "_slotOf" "[I" (.ref oo) ∧ Fld Z h oa "com/example/monitorgen/monitorgen/trace/Instant" "_slots" "[I" (.ref os) ∧ Fld Z h oa "com/example/monitorgen/monitorgen/trace/Instant" "_distinct" "I" (.int (0 : Int32)) ∧ Fld Z h oa "com/example/monitorgen/monitorgen/trace/Instant" "_total" "J" (.long (0 : Int64)) ∧ Fld Z h oa "com/example/monitorgen/monitorgen/trace/Instant" "_ignored" "J" (.long (0 : Int64)) ∧ own_AI Z h os .int (16 : Int32) [(0 : Int32), (0 : Int32), (0 : Int32), (0 : Int32), (0 : Int32), (0 : Int32), (0 : Int32), (0 : Int32), (0 : Int32), (0 : Int32), (0 : Int32), (0 : Int32), (0 : Int32), (0 : Int32), (0 : Int32), (0 : Int32)]
set_option maxRecDepth 65536 in
set_option maxHeartbeats 40000000 in
theorem own_rm9 (l : Launch) (Z : State) (a0 : Array Value) (hw : ∀ d ∈ tables_1, d.before a0 Z = true) (ws : List Jvm.Cond) (oa : Addr) (oe : Addr) (oc : Addr) (oo : Addr) (os : Addr) (nd : Int32) (tt : Int64) (ig : Int64) (LE : List Int32) (LC : List Int64) (LO : List Int32) (LS : List Int32) (bb : Nat) (h0 : Heap) (n0 : Nat) (Z0 : n0 ≤ h0.size) (E_oa : Exa Z h0 oa "com/example/monitorgen/monitorgen/trace/Instant") (F__events_oa : Fld Z h0 oa "com/example/monitorgen/monitorgen/trace/Instant" "_events" "[I" (.ref oe)) (F__counts_oa : Fld Z h0 oa "com/example/monitorgen/monitorgen/trace/Instant" "_counts" "[J" (.ref oc)) (F__slotOf_oa : Fld Z h0 oa "com/example/monitorgen/monitorgen/trace/Instant" "_slotOf" "[I" (.ref oo)) (F__slots_oa : Fld Z h0 oa "com/example/monitorgen/monitorgen/trace/Instant" "_slots" "[I" (.ref os)) (F__distinct_oa : Fld Z h0 oa "com/example/monitorgen/monitorgen/trace/Instant" "_distinct" "I" (.int nd)) (F__total_oa : Fld Z h0 oa "com/example/monitorgen/monitorgen/trace/Instant" "_total" "J" (.long tt)) (F__ignored_oa : Fld Z h0 oa "com/example/monitorgen/monitorgen/trace/Instant" "_ignored" "J" (.long ig)) (A_oe : own_AI Z h0 oe .int (4 : Int32) LE) (A_oc : own_AJ Z h0 oc (4 : Int32) LC) (A_oo : own_AI Z h0 oo .int (4 : Int32) LO) (A_os : own_AI Z h0 os .int (16 : Int32) LS) (g_oa : n0 ≤ oa) (g_oe : n0 ≤ oe) (g_oc : n0 ≤ oc) (g_oo : n0 ≤ oo) (g_os : n0 ≤ os) (ne_oa_oe : oa ≠ oe) (ne_oa_oc : oa ≠ oc) (ne_oa_oo : oa ≠ oo) (ne_oa_os : oa ≠ os) (ne_oe_oc : oe ≠ oc) (ne_oe_oo : oe ≠ oo) (ne_oe_os : oe ≠ os) (ne_oc_oo : oc ≠ oo) (ne_oc_os : oc ≠ os) (ne_oo_os : oo ≠ os) (hv : own_inv bb nd LO LS) (hb_ : bb ≤ 3) :
    MetFree l (⟨"com/example/monitorgen/monitorgen/trace/Instant", "clear", "()V"⟩ : MethodName) (head1 (Jvm.Cond.code (⟨"com/example/monitorgen/monitorgen/trace/Instant", "clear", "()V"⟩ : MethodName) prog_66_method_2_code 2 none :: ws) own_room9) (fun a U => a = #[(.ref oa)] ∧ Z.Warmed39 U.vm ∧ U.heap = h0) (fun _ _ _ _ _ => True) (fun _ U o U' => ∃ v L, o = .returned v ∧ own_Q9 Z oa oe oc oo os nd tt ig LE LC LO LS bb h0 n0 v U'.heap L ∧ FrameEnd U o U' L own_room9.cells own_room9.slots) := by
  refine MetFree.of_bodySF (plainFor_of_name own_pn0) hisR ?_
  intro p e s m args below meth c s₁ Bd hml0 hP hK
  obtain ⟨rfl, hZ, hh⟩ := hP
  have hx := Bd.exec
  have hby := Bd.bytes
  have hml : c.maxLocals = 2 := hml0
  have hown : s.vm.findClass "com/example/monitorgen/monitorgen/trace/Instant" = some m.cls := findClass_of_methodNamed Bd.named
  have hnm := (name_of_methodNamed Bd.named Bd.method).1
  have X0 : Stand p l e own_room9 s m #[(.ref oa)] below meth c s₁ [] 0 0 := Stand.of_body Bd
  have e0 : s₁.heap = h0 := by rw [← hh, Bd.state]; rfl
  have N0 := Fr.nil n0
  refine own_out (Q := fun o U' => ∃ v L, o = .returned v ∧ own_Q9 Z oa oe oc oo os nd tt ig LE LC LO LS bb h0 n0 v U'.heap L ∧ FrameEnd s o U' L own_room9.cells own_room9.slots) ?_
  refine own_go (T' := s₁) (f' := (mkF m 0 #[.val (.ref oa), .unset] [])) ?_ (fun _ k => castTop (own_ef9 m oa) k)
  refine own_go (T' := s₁) (f' := (mkF m 1 #[.val (.ref oa), .unset] [(.int (0 : Int32))])) ?_ (fun _ k => XS.iconst X0.here hx rfl (hb hby own_d9_0) k)
  refine own_go (T' := s₁) (f' := (mkF m 2 #[.val (.ref oa), .val (.int (0 : Int32))] [])) ?_ (fun _ k => XS.istoreN X0.here hx rfl (hb hby own_d9_1) rfl (l' := #[.val (.ref oa), .val (.int (0 : Int32))]) rfl k)
  refine own_go (T' := s₁) (f' := (mkF m 3 #[.val (.ref oa), .val (.int (0 : Int32))] [(.int (0 : Int32))])) ?_ (fun _ k => XS.iloadN X0.here hx rfl (hb hby own_d9_2) rfl  k)
  refine own_go (T' := s₁) (f' := (mkF m 4 #[.val (.ref oa), .val (.int (0 : Int32))] [(.ref oa), (.int (0 : Int32))])) ?_ (fun _ k => XS.aloadN X0.here hx rfl (hb hby own_d9_3) rfl rfl k)
  obtain ⟨T1, X1, e1, st1⟩ := getF X0 hx hZ hown (host := "") (Or.inl (hw _ (List.mem_of_getElem? (i := 24) rfl))) Via.refl e0 F__distinct_oa (g := (mkF m 4 #[.val (.ref oa), .val (.int (0 : Int32))] [(.ref oa), (.int (0 : Int32))])) rfl rfl (hb hby own_d9_4)
  refine own_go (T' := T1) (f' := (mkF m 7 #[.val (.ref oa), .val (.int (0 : Int32))] [(.int nd), (.int (0 : Int32))])) ?_ (st1)
  by_cases hc7_2 : (0 : Int32) < nd
  · refine own_go (T' := T1) (f' := (mkF m 10 #[.val (.ref oa), .val (.int (0 : Int32))] [])) ?_ (fun _ k => XS.icmpNo X1.here hx rfl (hb hby own_d9_7) rfl (tlt hc7_2).2.1 k)
    refine own_go (T' := T1) (f' := (mkF m 11 #[.val (.ref oa), .val (.int (0 : Int32))] [(.ref oa)])) ?_ (fun _ k => XS.aloadN X1.here hx rfl (hb hby own_d9_10) rfl rfl k)
    obtain ⟨T3, X3, e3, st3⟩ := getF X1 hx hZ hown (host := "") (Or.inl (hw _ (List.mem_of_getElem? (i := 17) rfl))) Via.refl e1 F__slots_oa (g := (mkF m 11 #[.val (.ref oa), .val (.int (0 : Int32))] [(.ref oa)])) rfl rfl (hb hby own_d9_11)
    refine own_go (T' := T3) (f' := (mkF m 14 #[.val (.ref oa), .val (.int (0 : Int32))] [(.ref os)])) ?_ (st3)
    refine own_go (T' := T3) (f' := (mkF m 15 #[.val (.ref oa), .val (.int (0 : Int32))] [(.ref oa), (.ref os)])) ?_ (fun _ k => XS.aloadN X3.here hx rfl (hb hby own_d9_14) rfl rfl k)
    obtain ⟨T4, X4, e4, st4⟩ := getF X3 hx hZ hown (host := "") (Or.inl (hw _ (List.mem_of_getElem? (i := 15) rfl))) Via.refl e3 F__slotOf_oa (g := (mkF m 15 #[.val (.ref oa), .val (.int (0 : Int32))] [(.ref oa), (.ref os)])) rfl rfl (hb hby own_d9_15)
    refine own_go (T' := T4) (f' := (mkF m 18 #[.val (.ref oa), .val (.int (0 : Int32))] [(.ref oo), (.ref os)])) ?_ (st4)
    refine own_go (T' := T4) (f' := (mkF m 19 #[.val (.ref oa), .val (.int (0 : Int32))] [(.int (0 : Int32)), (.ref oo), (.ref os)])) ?_ (fun _ k => XS.iloadN X4.here hx rfl (hb hby own_d9_18) rfl  k)
    refine own_go (T' := T4) (f' := (mkF m 20 #[.val (.ref oa), .val (.int (0 : Int32))] [(.int (LO.getD ((0 : Int32)).toNatClampNeg 0)), (.ref os)])) ?_ (own_ldI X4 hx hZ e4 A_oo (j := (0 : Int32)) ⟨by decide, by decide⟩ (g := (mkF m 19 #[.val (.ref oa), .val (.int (0 : Int32))] [(.int (0 : Int32)), (.ref oo), (.ref os)])) rfl rfl (hb hby own_d9_19))
    refine own_go (T' := T4) (f' := (mkF m 21 #[.val (.ref oa), .val (.int (0 : Int32))] [(.int (0 : Int32)), (.int (LO.getD ((0 : Int32)).toNatClampNeg 0)), (.ref os)])) ?_ (fun _ k => XS.iconst X4.here hx rfl (hb hby own_d9_20) k)
    obtain ⟨T5, h5, X5, e5, W5, F5, st5⟩ := own_stI X4 hx hZ e4 A_os (j := (LO.getD ((0 : Int32)).toNatClampNeg 0)) (own_so hv hb_ hc7_2) (g := (mkF m 21 #[.val (.ref oa), .val (.int (0 : Int32))] [(.int (0 : Int32)), (.int (LO.getD ((0 : Int32)).toNatClampNeg 0)), (.ref os)])) rfl rfl (hb hby own_d9_21)
    have fa6 := E_oa.wr W5
    have fa7 := F__events_oa.other W5 (Or.inl ne_oa_os)
    have fa8 := F__counts_oa.other W5 (Or.inl ne_oa_os)
    have fa9 := F__slotOf_oa.other W5 (Or.inl ne_oa_os)
    have fa10 := F__slots_oa.other W5 (Or.inl ne_oa_os)
    have fa11 := F__distinct_oa.other W5 (Or.inl ne_oa_os)
    have fa12 := F__total_oa.other W5 (Or.inl ne_oa_os)
    have fa13 := F__ignored_oa.other W5 (Or.inl ne_oa_os)
    have fa14 := A_oe.other W5 ne_oe_os
    have fa15 := A_oc.other W5 ne_oc_os
    have fa16 := A_oo.other W5 ne_oo_os
    have Fw5 : own_AI Z h5 os .int (16 : Int32) (LS.set ((LO.getD ((0 : Int32)).toNatClampNeg 0)).toNatClampNeg (0 : Int32)) := F5
    have N5 := Fr.snoc X5 N0 g_os
    have KK5 : Keep h0 h5 [oa, os] := (Keep.refl h0 [oa, os]).wr W5 (Or.inl (List.mem_of_getElem? (i := 1) rfl))
    have ZZ5 : n0 ≤ h5.size := Nat.le_trans Z0 (Keep.of_wr W5).1
    refine own_go (T' := T5) (f' := (mkF m 22 #[.val (.ref oa), .val (.int (0 : Int32))] [])) ?_ (st5)
    refine own_go (T' := T5) (f' := (mkF m 25 #[.val (.ref oa), .val (.int (1 : Int32))] [])) ?_ (fun _ k => XS.iinc X5.here hx rfl (hb hby own_d9_22) rfl (l' := #[.val (.ref oa), .val (.int (1 : Int32))]) rfl k)
    refine own_go (T' := T5) (f' := (mkF m 2 #[.val (.ref oa), .val (.int (1 : Int32))] [])) ?_ (fun _ k => XS.goto X5.here hx rfl (pc0 := 25) (pc' := 2) rfl (hb hby own_d9_25) (by decide) (by decide) k)
    refine own_go (T' := T5) (f' := (mkF m 3 #[.val (.ref oa), .val (.int (1 : Int32))] [(.int (1 : Int32))])) ?_ (fun _ k => XS.iloadN X5.here hx rfl (hb hby own_d9_2) rfl  k)
    refine own_go (T' := T5) (f' := (mkF m 4 #[.val (.ref oa), .val (.int (1 : Int32))] [(.ref oa), (.int (1 : Int32))])) ?_ (fun _ k => XS.aloadN X5.here hx rfl (hb hby own_d9_3) rfl rfl k)
    obtain ⟨T18, X18, e18, st18⟩ := getF X5 hx hZ hown (host := "") (Or.inl (hw _ (List.mem_of_getElem? (i := 24) rfl))) Via.refl e5 fa11 (g := (mkF m 4 #[.val (.ref oa), .val (.int (1 : Int32))] [(.ref oa), (.int (1 : Int32))])) rfl rfl (hb hby own_d9_4)
    refine own_go (T' := T18) (f' := (mkF m 7 #[.val (.ref oa), .val (.int (1 : Int32))] [(.int nd), (.int (1 : Int32))])) ?_ (st18)
    by_cases hc7_19 : (1 : Int32) < nd
    · refine own_go (T' := T18) (f' := (mkF m 10 #[.val (.ref oa), .val (.int (1 : Int32))] [])) ?_ (fun _ k => XS.icmpNo X18.here hx rfl (hb hby own_d9_7) rfl (tlt hc7_19).2.1 k)
      refine own_go (T' := T18) (f' := (mkF m 11 #[.val (.ref oa), .val (.int (1 : Int32))] [(.ref oa)])) ?_ (fun _ k => XS.aloadN X18.here hx rfl (hb hby own_d9_10) rfl rfl k)
      obtain ⟨T20, X20, e20, st20⟩ := getF X18 hx hZ hown (host := "") (Or.inl (hw _ (List.mem_of_getElem? (i := 17) rfl))) Via.refl e18 fa10 (g := (mkF m 11 #[.val (.ref oa), .val (.int (1 : Int32))] [(.ref oa)])) rfl rfl (hb hby own_d9_11)
      refine own_go (T' := T20) (f' := (mkF m 14 #[.val (.ref oa), .val (.int (1 : Int32))] [(.ref os)])) ?_ (st20)
      refine own_go (T' := T20) (f' := (mkF m 15 #[.val (.ref oa), .val (.int (1 : Int32))] [(.ref oa), (.ref os)])) ?_ (fun _ k => XS.aloadN X20.here hx rfl (hb hby own_d9_14) rfl rfl k)
      obtain ⟨T21, X21, e21, st21⟩ := getF X20 hx hZ hown (host := "") (Or.inl (hw _ (List.mem_of_getElem? (i := 15) rfl))) Via.refl e20 fa9 (g := (mkF m 15 #[.val (.ref oa), .val (.int (1 : Int32))] [(.ref oa), (.ref os)])) rfl rfl (hb hby own_d9_15)
      refine own_go (T' := T21) (f' := (mkF m 18 #[.val (.ref oa), .val (.int (1 : Int32))] [(.ref oo), (.ref os)])) ?_ (st21)
      refine own_go (T' := T21) (f' := (mkF m 19 #[.val (.ref oa), .val (.int (1 : Int32))] [(.int (1 : Int32)), (.ref oo), (.ref os)])) ?_ (fun _ k => XS.iloadN X21.here hx rfl (hb hby own_d9_18) rfl  k)
      refine own_go (T' := T21) (f' := (mkF m 20 #[.val (.ref oa), .val (.int (1 : Int32))] [(.int (LO.getD ((1 : Int32)).toNatClampNeg 0)), (.ref os)])) ?_ (own_ldI X21 hx hZ e21 fa16 (j := (1 : Int32)) ⟨by decide, by decide⟩ (g := (mkF m 19 #[.val (.ref oa), .val (.int (1 : Int32))] [(.int (1 : Int32)), (.ref oo), (.ref os)])) rfl rfl (hb hby own_d9_19))
      refine own_go (T' := T21) (f' := (mkF m 21 #[.val (.ref oa), .val (.int (1 : Int32))] [(.int (0 : Int32)), (.int (LO.getD ((1 : Int32)).toNatClampNeg 0)), (.ref os)])) ?_ (fun _ k => XS.iconst X21.here hx rfl (hb hby own_d9_20) k)
      obtain ⟨T22, h22, X22, e22, W22, F22, st22⟩ := own_stI X21 hx hZ e21 Fw5 (j := (LO.getD ((1 : Int32)).toNatClampNeg 0)) (own_so hv hb_ hc7_19) (g := (mkF m 21 #[.val (.ref oa), .val (.int (1 : Int32))] [(.int (0 : Int32)), (.int (LO.getD ((1 : Int32)).toNatClampNeg 0)), (.ref os)])) rfl rfl (hb hby own_d9_21)
      have fa23 := fa6.wr W22
      have fa24 := fa7.other W22 (Or.inl ne_oa_os)
      have fa25 := fa8.other W22 (Or.inl ne_oa_os)
      have fa26 := fa9.other W22 (Or.inl ne_oa_os)
      have fa27 := fa10.other W22 (Or.inl ne_oa_os)
      have fa28 := fa11.other W22 (Or.inl ne_oa_os)
      have fa29 := fa12.other W22 (Or.inl ne_oa_os)
      have fa30 := fa13.other W22 (Or.inl ne_oa_os)
      have fa31 := fa14.other W22 ne_oe_os
      have fa32 := fa15.other W22 ne_oc_os
      have fa33 := fa16.other W22 ne_oo_os
      have Fw22 : own_AI Z h22 os .int (16 : Int32) ((LS.set ((LO.getD ((0 : Int32)).toNatClampNeg 0)).toNatClampNeg (0 : Int32)).set ((LO.getD ((1 : Int32)).toNatClampNeg 0)).toNatClampNeg (0 : Int32)) := F22
      have N22 := Fr.snoc X22 N5 g_os
      have KK22 : Keep h0 h22 [oa, os] := KK5.wr W22 (Or.inl (List.mem_of_getElem? (i := 1) rfl))
      have ZZ22 : n0 ≤ h22.size := Nat.le_trans ZZ5 (Keep.of_wr W22).1
      refine own_go (T' := T22) (f' := (mkF m 22 #[.val (.ref oa), .val (.int (1 : Int32))] [])) ?_ (st22)
      refine own_go (T' := T22) (f' := (mkF m 25 #[.val (.ref oa), .val (.int (2 : Int32))] [])) ?_ (fun _ k => XS.iinc X22.here hx rfl (hb hby own_d9_22) rfl (l' := #[.val (.ref oa), .val (.int (2 : Int32))]) rfl k)
      refine own_go (T' := T22) (f' := (mkF m 2 #[.val (.ref oa), .val (.int (2 : Int32))] [])) ?_ (fun _ k => XS.goto X22.here hx rfl (pc0 := 25) (pc' := 2) rfl (hb hby own_d9_25) (by decide) (by decide) k)
      refine own_go (T' := T22) (f' := (mkF m 3 #[.val (.ref oa), .val (.int (2 : Int32))] [(.int (2 : Int32))])) ?_ (fun _ k => XS.iloadN X22.here hx rfl (hb hby own_d9_2) rfl  k)
      refine own_go (T' := T22) (f' := (mkF m 4 #[.val (.ref oa), .val (.int (2 : Int32))] [(.ref oa), (.int (2 : Int32))])) ?_ (fun _ k => XS.aloadN X22.here hx rfl (hb hby own_d9_3) rfl rfl k)
      obtain ⟨T35, X35, e35, st35⟩ := getF X22 hx hZ hown (host := "") (Or.inl (hw _ (List.mem_of_getElem? (i := 24) rfl))) Via.refl e22 fa28 (g := (mkF m 4 #[.val (.ref oa), .val (.int (2 : Int32))] [(.ref oa), (.int (2 : Int32))])) rfl rfl (hb hby own_d9_4)
      refine own_go (T' := T35) (f' := (mkF m 7 #[.val (.ref oa), .val (.int (2 : Int32))] [(.int nd), (.int (2 : Int32))])) ?_ (st35)
      by_cases hc7_36 : (2 : Int32) < nd
      · refine own_go (T' := T35) (f' := (mkF m 10 #[.val (.ref oa), .val (.int (2 : Int32))] [])) ?_ (fun _ k => XS.icmpNo X35.here hx rfl (hb hby own_d9_7) rfl (tlt hc7_36).2.1 k)
        refine own_go (T' := T35) (f' := (mkF m 11 #[.val (.ref oa), .val (.int (2 : Int32))] [(.ref oa)])) ?_ (fun _ k => XS.aloadN X35.here hx rfl (hb hby own_d9_10) rfl rfl k)
        obtain ⟨T37, X37, e37, st37⟩ := getF X35 hx hZ hown (host := "") (Or.inl (hw _ (List.mem_of_getElem? (i := 17) rfl))) Via.refl e35 fa27 (g := (mkF m 11 #[.val (.ref oa), .val (.int (2 : Int32))] [(.ref oa)])) rfl rfl (hb hby own_d9_11)
        refine own_go (T' := T37) (f' := (mkF m 14 #[.val (.ref oa), .val (.int (2 : Int32))] [(.ref os)])) ?_ (st37)
        refine own_go (T' := T37) (f' := (mkF m 15 #[.val (.ref oa), .val (.int (2 : Int32))] [(.ref oa), (.ref os)])) ?_ (fun _ k => XS.aloadN X37.here hx rfl (hb hby own_d9_14) rfl rfl k)
        obtain ⟨T38, X38, e38, st38⟩ := getF X37 hx hZ hown (host := "") (Or.inl (hw _ (List.mem_of_getElem? (i := 15) rfl))) Via.refl e37 fa26 (g := (mkF m 15 #[.val (.ref oa), .val (.int (2 : Int32))] [(.ref oa), (.ref os)])) rfl rfl (hb hby own_d9_15)
        refine own_go (T' := T38) (f' := (mkF m 18 #[.val (.ref oa), .val (.int (2 : Int32))] [(.ref oo), (.ref os)])) ?_ (st38)
        refine own_go (T' := T38) (f' := (mkF m 19 #[.val (.ref oa), .val (.int (2 : Int32))] [(.int (2 : Int32)), (.ref oo), (.ref os)])) ?_ (fun _ k => XS.iloadN X38.here hx rfl (hb hby own_d9_18) rfl  k)
        refine own_go (T' := T38) (f' := (mkF m 20 #[.val (.ref oa), .val (.int (2 : Int32))] [(.int (LO.getD ((2 : Int32)).toNatClampNeg 0)), (.ref os)])) ?_ (own_ldI X38 hx hZ e38 fa33 (j := (2 : Int32)) ⟨by decide, by decide⟩ (g := (mkF m 19 #[.val (.ref oa), .val (.int (2 : Int32))] [(.int (2 : Int32)), (.ref oo), (.ref os)])) rfl rfl (hb hby own_d9_19))
        refine own_go (T' := T38) (f' := (mkF m 21 #[.val (.ref oa), .val (.int (2 : Int32))] [(.int (0 : Int32)), (.int (LO.getD ((2 : Int32)).toNatClampNeg 0)), (.ref os)])) ?_ (fun _ k => XS.iconst X38.here hx rfl (hb hby own_d9_20) k)
        obtain ⟨T39, h39, X39, e39, W39, F39, st39⟩ := own_stI X38 hx hZ e38 Fw22 (j := (LO.getD ((2 : Int32)).toNatClampNeg 0)) (own_so hv hb_ hc7_36) (g := (mkF m 21 #[.val (.ref oa), .val (.int (2 : Int32))] [(.int (0 : Int32)), (.int (LO.getD ((2 : Int32)).toNatClampNeg 0)), (.ref os)])) rfl rfl (hb hby own_d9_21)
        have fa40 := fa23.wr W39
        have fa41 := fa24.other W39 (Or.inl ne_oa_os)
        have fa42 := fa25.other W39 (Or.inl ne_oa_os)
        have fa43 := fa26.other W39 (Or.inl ne_oa_os)
        have fa44 := fa27.other W39 (Or.inl ne_oa_os)
        have fa45 := fa28.other W39 (Or.inl ne_oa_os)
        have fa46 := fa29.other W39 (Or.inl ne_oa_os)
        have fa47 := fa30.other W39 (Or.inl ne_oa_os)
        have fa48 := fa31.other W39 ne_oe_os
        have fa49 := fa32.other W39 ne_oc_os
        have fa50 := fa33.other W39 ne_oo_os
        have Fw39 : own_AI Z h39 os .int (16 : Int32) (((LS.set ((LO.getD ((0 : Int32)).toNatClampNeg 0)).toNatClampNeg (0 : Int32)).set ((LO.getD ((1 : Int32)).toNatClampNeg 0)).toNatClampNeg (0 : Int32)).set ((LO.getD ((2 : Int32)).toNatClampNeg 0)).toNatClampNeg (0 : Int32)) := F39
        have N39 := Fr.snoc X39 N22 g_os
        have KK39 : Keep h0 h39 [oa, os] := KK22.wr W39 (Or.inl (List.mem_of_getElem? (i := 1) rfl))
        have ZZ39 : n0 ≤ h39.size := Nat.le_trans ZZ22 (Keep.of_wr W39).1
        refine own_go (T' := T39) (f' := (mkF m 22 #[.val (.ref oa), .val (.int (2 : Int32))] [])) ?_ (st39)
        refine own_go (T' := T39) (f' := (mkF m 25 #[.val (.ref oa), .val (.int (3 : Int32))] [])) ?_ (fun _ k => XS.iinc X39.here hx rfl (hb hby own_d9_22) rfl (l' := #[.val (.ref oa), .val (.int (3 : Int32))]) rfl k)
        refine own_go (T' := T39) (f' := (mkF m 2 #[.val (.ref oa), .val (.int (3 : Int32))] [])) ?_ (fun _ k => XS.goto X39.here hx rfl (pc0 := 25) (pc' := 2) rfl (hb hby own_d9_25) (by decide) (by decide) k)
        refine own_go (T' := T39) (f' := (mkF m 3 #[.val (.ref oa), .val (.int (3 : Int32))] [(.int (3 : Int32))])) ?_ (fun _ k => XS.iloadN X39.here hx rfl (hb hby own_d9_2) rfl  k)
        refine own_go (T' := T39) (f' := (mkF m 4 #[.val (.ref oa), .val (.int (3 : Int32))] [(.ref oa), (.int (3 : Int32))])) ?_ (fun _ k => XS.aloadN X39.here hx rfl (hb hby own_d9_3) rfl rfl k)
        obtain ⟨T52, X52, e52, st52⟩ := getF X39 hx hZ hown (host := "") (Or.inl (hw _ (List.mem_of_getElem? (i := 24) rfl))) Via.refl e39 fa45 (g := (mkF m 4 #[.val (.ref oa), .val (.int (3 : Int32))] [(.ref oa), (.int (3 : Int32))])) rfl rfl (hb hby own_d9_4)
        refine own_go (T' := T52) (f' := (mkF m 7 #[.val (.ref oa), .val (.int (3 : Int32))] [(.int nd), (.int (3 : Int32))])) ?_ (st52)
        have hk7_53 : ¬ ((3 : Int32) < nd) := (own_nd3 hv hb_)
        refine own_go (T' := T52) (f' := (mkF m 28 #[.val (.ref oa), .val (.int (3 : Int32))] [])) ?_ (fun _ k => XS.icmpYes X52.here hx rfl (pc0 := 7) (pc' := 28) rfl (hb hby own_d9_7) rfl (flt hk7_53).2.1 (by decide) (by decide) k)
        refine own_go (T' := T52) (f' := (mkF m 29 #[.val (.ref oa), .val (.int (3 : Int32))] [(.ref oa)])) ?_ (fun _ k => XS.aloadN X52.here hx rfl (hb hby own_d9_28) rfl rfl k)
        refine own_go (T' := T52) (f' := (mkF m 30 #[.val (.ref oa), .val (.int (3 : Int32))] [(.int (0 : Int32)), (.ref oa)])) ?_ (fun _ k => XS.iconst X52.here hx rfl (hb hby own_d9_29) k)
        obtain ⟨T54, h54, X54, e54, W54, st54⟩ := putF X52 hx hZ hown (host := "") (Or.inl (hw _ (List.mem_of_getElem? (i := 24) rfl))) Via.refl e52 fa45 fa40 (Or.inl (hw _ (List.mem_of_getElem? (i := 25) rfl))) (hw _ (List.mem_of_getElem? (i := 1) rfl)) (ty := .int) (by decide) rfl rfl (g := (mkF m 30 #[.val (.ref oa), .val (.int (3 : Int32))] [(.int (0 : Int32)), (.ref oa)])) rfl rfl (hb hby own_d9_30)
        have fa55 := fa40.wr W54
        have fa56 := fa41.other W54 (Or.inr (slot_ne (Or.inl (hw _ (List.mem_of_getElem? (i := 11) rfl))) (Or.inl (hw _ (List.mem_of_getElem? (i := 25) rfl))) (by decide) (t := (.array .int)) (t' := .int) (by decide) (by decide)))
        have fa57 := fa42.other W54 (Or.inr (slot_ne (Or.inl (hw _ (List.mem_of_getElem? (i := 14) rfl))) (Or.inl (hw _ (List.mem_of_getElem? (i := 25) rfl))) (by decide) (t := (.array .long)) (t' := .int) (by decide) (by decide)))
        have fa58 := fa43.other W54 (Or.inr (slot_ne (Or.inl (hw _ (List.mem_of_getElem? (i := 16) rfl))) (Or.inl (hw _ (List.mem_of_getElem? (i := 25) rfl))) (by decide) (t := (.array .int)) (t' := .int) (by decide) (by decide)))
        have fa59 := fa44.other W54 (Or.inr (slot_ne (Or.inl (hw _ (List.mem_of_getElem? (i := 18) rfl))) (Or.inl (hw _ (List.mem_of_getElem? (i := 25) rfl))) (by decide) (t := (.array .int)) (t' := .int) (by decide) (by decide)))
        have fa61 := fa46.other W54 (Or.inr (slot_ne (Or.inl (hw _ (List.mem_of_getElem? (i := 27) rfl))) (Or.inl (hw _ (List.mem_of_getElem? (i := 25) rfl))) (by decide) (t := .long) (t' := .int) (by decide) (by decide)))
        have fa62 := fa47.other W54 (Or.inr (slot_ne (Or.inl (hw _ (List.mem_of_getElem? (i := 29) rfl))) (Or.inl (hw _ (List.mem_of_getElem? (i := 25) rfl))) (by decide) (t := .long) (t' := .int) (by decide) (by decide)))
        have fa63 := fa48.other W54 (Ne.symm ne_oa_oe)
        have fa64 := fa49.other W54 (Ne.symm ne_oa_oc)
        have fa65 := fa50.other W54 (Ne.symm ne_oa_oo)
        have fa66 := Fw39.other W54 (Ne.symm ne_oa_os)
        have Fw54 := fa45.same W54
        have N54 := Fr.snoc X54 N39 g_oa
        have KK54 : Keep h0 h54 [oa, os] := KK39.wr W54 (Or.inl (List.mem_of_getElem? (i := 0) rfl))
        have ZZ54 : n0 ≤ h54.size := Nat.le_trans ZZ39 (Keep.of_wr W54).1
        refine own_go (T' := T54) (f' := (mkF m 33 #[.val (.ref oa), .val (.int (3 : Int32))] [])) ?_ (st54)
        refine own_go (T' := T54) (f' := (mkF m 34 #[.val (.ref oa), .val (.int (3 : Int32))] [(.ref oa)])) ?_ (fun _ k => XS.aloadN X54.here hx rfl (hb hby own_d9_33) rfl rfl k)
        refine own_go (T' := T54) (f' := (mkF m 35 #[.val (.ref oa), .val (.int (3 : Int32))] [(.long (0 : Int64)), (.ref oa)])) ?_ (fun _ k => XS.lconst X54.here hx rfl (hb hby own_d9_34) k)
        obtain ⟨T67, h67, X67, e67, W67, st67⟩ := putF X54 hx hZ hown (host := "") (Or.inl (hw _ (List.mem_of_getElem? (i := 26) rfl))) Via.refl e54 fa61 fa55 (Or.inl (hw _ (List.mem_of_getElem? (i := 27) rfl))) (hw _ (List.mem_of_getElem? (i := 1) rfl)) (ty := .long) (by decide) rfl rfl (g := (mkF m 35 #[.val (.ref oa), .val (.int (3 : Int32))] [(.long (0 : Int64)), (.ref oa)])) rfl rfl (hb hby own_d9_35)
        have fa68 := fa55.wr W67
        have fa69 := fa56.other W67 (Or.inr (slot_ne (Or.inl (hw _ (List.mem_of_getElem? (i := 11) rfl))) (Or.inl (hw _ (List.mem_of_getElem? (i := 27) rfl))) (by decide) (t := (.array .int)) (t' := .long) (by decide) (by decide)))
        have fa70 := fa57.other W67 (Or.inr (slot_ne (Or.inl (hw _ (List.mem_of_getElem? (i := 14) rfl))) (Or.inl (hw _ (List.mem_of_getElem? (i := 27) rfl))) (by decide) (t := (.array .long)) (t' := .long) (by decide) (by decide)))
        have fa71 := fa58.other W67 (Or.inr (slot_ne (Or.inl (hw _ (List.mem_of_getElem? (i := 16) rfl))) (Or.inl (hw _ (List.mem_of_getElem? (i := 27) rfl))) (by decide) (t := (.array .int)) (t' := .long) (by decide) (by decide)))
        have fa72 := fa59.other W67 (Or.inr (slot_ne (Or.inl (hw _ (List.mem_of_getElem? (i := 18) rfl))) (Or.inl (hw _ (List.mem_of_getElem? (i := 27) rfl))) (by decide) (t := (.array .int)) (t' := .long) (by decide) (by decide)))
        have fa74 := fa62.other W67 (Or.inr (slot_ne (Or.inl (hw _ (List.mem_of_getElem? (i := 29) rfl))) (Or.inl (hw _ (List.mem_of_getElem? (i := 27) rfl))) (by decide) (t := .long) (t' := .long) (by decide) (by decide)))
        have fa75 := fa63.other W67 (Ne.symm ne_oa_oe)
        have fa76 := fa64.other W67 (Ne.symm ne_oa_oc)
        have fa77 := fa65.other W67 (Ne.symm ne_oa_oo)
        have fa78 := fa66.other W67 (Ne.symm ne_oa_os)
        have fa79 := Fw54.other W67 (Or.inr (slot_ne (Or.inl (hw _ (List.mem_of_getElem? (i := 25) rfl))) (Or.inl (hw _ (List.mem_of_getElem? (i := 27) rfl))) (by decide) (t := .int) (t' := .long) (by decide) (by decide)))
        have Fw67 := fa61.same W67
        have N67 := Fr.snoc X67 N54 g_oa
        have KK67 : Keep h0 h67 [oa, os] := KK54.wr W67 (Or.inl (List.mem_of_getElem? (i := 0) rfl))
        have ZZ67 : n0 ≤ h67.size := Nat.le_trans ZZ54 (Keep.of_wr W67).1
        refine own_go (T' := T67) (f' := (mkF m 38 #[.val (.ref oa), .val (.int (3 : Int32))] [])) ?_ (st67)
        refine own_go (T' := T67) (f' := (mkF m 39 #[.val (.ref oa), .val (.int (3 : Int32))] [(.ref oa)])) ?_ (fun _ k => XS.aloadN X67.here hx rfl (hb hby own_d9_38) rfl rfl k)
        refine own_go (T' := T67) (f' := (mkF m 40 #[.val (.ref oa), .val (.int (3 : Int32))] [(.long (0 : Int64)), (.ref oa)])) ?_ (fun _ k => XS.lconst X67.here hx rfl (hb hby own_d9_39) k)
        obtain ⟨T80, h80, X80, e80, W80, st80⟩ := putF X67 hx hZ hown (host := "") (Or.inl (hw _ (List.mem_of_getElem? (i := 28) rfl))) Via.refl e67 fa74 fa68 (Or.inl (hw _ (List.mem_of_getElem? (i := 29) rfl))) (hw _ (List.mem_of_getElem? (i := 1) rfl)) (ty := .long) (by decide) rfl rfl (g := (mkF m 40 #[.val (.ref oa), .val (.int (3 : Int32))] [(.long (0 : Int64)), (.ref oa)])) rfl rfl (hb hby own_d9_40)
        have fa81 := fa68.wr W80
        have fa82 := fa69.other W80 (Or.inr (slot_ne (Or.inl (hw _ (List.mem_of_getElem? (i := 11) rfl))) (Or.inl (hw _ (List.mem_of_getElem? (i := 29) rfl))) (by decide) (t := (.array .int)) (t' := .long) (by decide) (by decide)))
        have fa83 := fa70.other W80 (Or.inr (slot_ne (Or.inl (hw _ (List.mem_of_getElem? (i := 14) rfl))) (Or.inl (hw _ (List.mem_of_getElem? (i := 29) rfl))) (by decide) (t := (.array .long)) (t' := .long) (by decide) (by decide)))
        have fa84 := fa71.other W80 (Or.inr (slot_ne (Or.inl (hw _ (List.mem_of_getElem? (i := 16) rfl))) (Or.inl (hw _ (List.mem_of_getElem? (i := 29) rfl))) (by decide) (t := (.array .int)) (t' := .long) (by decide) (by decide)))
        have fa85 := fa72.other W80 (Or.inr (slot_ne (Or.inl (hw _ (List.mem_of_getElem? (i := 18) rfl))) (Or.inl (hw _ (List.mem_of_getElem? (i := 29) rfl))) (by decide) (t := (.array .int)) (t' := .long) (by decide) (by decide)))
        have fa87 := fa75.other W80 (Ne.symm ne_oa_oe)
        have fa88 := fa76.other W80 (Ne.symm ne_oa_oc)
        have fa89 := fa77.other W80 (Ne.symm ne_oa_oo)
        have fa90 := fa78.other W80 (Ne.symm ne_oa_os)
        have fa91 := fa79.other W80 (Or.inr (slot_ne (Or.inl (hw _ (List.mem_of_getElem? (i := 25) rfl))) (Or.inl (hw _ (List.mem_of_getElem? (i := 29) rfl))) (by decide) (t := .int) (t' := .long) (by decide) (by decide)))
        have fa92 := Fw67.other W80 (Or.inr (slot_ne (Or.inl (hw _ (List.mem_of_getElem? (i := 27) rfl))) (Or.inl (hw _ (List.mem_of_getElem? (i := 29) rfl))) (by decide) (t := .long) (t' := .long) (by decide) (by decide)))
        have Fw80 := fa74.same W80
        have N80 := Fr.snoc X80 N67 g_oa
        have KK80 : Keep h0 h80 [oa, os] := KK67.wr W80 (Or.inl (List.mem_of_getElem? (i := 0) rfl))
        have ZZ80 : n0 ≤ h80.size := Nat.le_trans ZZ67 (Keep.of_wr W80).1
        refine own_go (T' := T80) (f' := (mkF m 43 #[.val (.ref oa), .val (.int (3 : Int32))] [])) ?_ (st80)
        obtain ⟨fs93, hr93, hrun93, hended93, hW93, hsame93⟩ := X80.leave (v := none) (fun _ => rfl)
        refine ⟨_, ⟨_, hrun93, hended93, _, _, rfl, ?_, ⟨_, rfl⟩, hW93, hsame93.mono (by decide) (by decide)⟩, fun _ k => (X80.returnOut hx Bd.returns (hb hby own_d9_43) hr93).trans k⟩
        show own_Q9 Z oa oe oc oo os nd tt ig LE LC LO LS bb h0 n0 _ T80.heap _
        rw [e80]
        exact ⟨rfl, N80, KK80, fa82, fa83, fa84, fa85, fa91, fa92, Fw80, (by rw [show [(0 : Int32), (0 : Int32), (0 : Int32), (0 : Int32), (0 : Int32), (0 : Int32), (0 : Int32), (0 : Int32), (0 : Int32), (0 : Int32), (0 : Int32), (0 : Int32), (0 : Int32), (0 : Int32), (0 : Int32), (0 : Int32)] = (((LS.set ((LO.getD ((0 : Int32)).toNatClampNeg 0)).toNatClampNeg (0 : Int32)).set ((LO.getD ((1 : Int32)).toNatClampNeg 0)).toNatClampNeg (0 : Int32)).set ((LO.getD ((2 : Int32)).toNatClampNeg 0)).toNatClampNeg (0 : Int32)) from (own_clear3 hv hb_ A_os hc7_2 hc7_19 hc7_36 hk7_53).symm]; exact fa90)⟩
      · refine own_go (T' := T35) (f' := (mkF m 28 #[.val (.ref oa), .val (.int (2 : Int32))] [])) ?_ (fun _ k => XS.icmpYes X35.here hx rfl (pc0 := 7) (pc' := 28) rfl (hb hby own_d9_7) rfl (flt hc7_36).2.1 (by decide) (by decide) k)
        refine own_go (T' := T35) (f' := (mkF m 29 #[.val (.ref oa), .val (.int (2 : Int32))] [(.ref oa)])) ?_ (fun _ k => XS.aloadN X35.here hx rfl (hb hby own_d9_28) rfl rfl k)
        refine own_go (T' := T35) (f' := (mkF m 30 #[.val (.ref oa), .val (.int (2 : Int32))] [(.int (0 : Int32)), (.ref oa)])) ?_ (fun _ k => XS.iconst X35.here hx rfl (hb hby own_d9_29) k)
        obtain ⟨T94, h94, X94, e94, W94, st94⟩ := putF X35 hx hZ hown (host := "") (Or.inl (hw _ (List.mem_of_getElem? (i := 24) rfl))) Via.refl e35 fa28 fa23 (Or.inl (hw _ (List.mem_of_getElem? (i := 25) rfl))) (hw _ (List.mem_of_getElem? (i := 1) rfl)) (ty := .int) (by decide) rfl rfl (g := (mkF m 30 #[.val (.ref oa), .val (.int (2 : Int32))] [(.int (0 : Int32)), (.ref oa)])) rfl rfl (hb hby own_d9_30)
        have fa95 := fa23.wr W94
        have fa96 := fa24.other W94 (Or.inr (slot_ne (Or.inl (hw _ (List.mem_of_getElem? (i := 11) rfl))) (Or.inl (hw _ (List.mem_of_getElem? (i := 25) rfl))) (by decide) (t := (.array .int)) (t' := .int) (by decide) (by decide)))
        have fa97 := fa25.other W94 (Or.inr (slot_ne (Or.inl (hw _ (List.mem_of_getElem? (i := 14) rfl))) (Or.inl (hw _ (List.mem_of_getElem? (i := 25) rfl))) (by decide) (t := (.array .long)) (t' := .int) (by decide) (by decide)))
        have fa98 := fa26.other W94 (Or.inr (slot_ne (Or.inl (hw _ (List.mem_of_getElem? (i := 16) rfl))) (Or.inl (hw _ (List.mem_of_getElem? (i := 25) rfl))) (by decide) (t := (.array .int)) (t' := .int) (by decide) (by decide)))
        have fa99 := fa27.other W94 (Or.inr (slot_ne (Or.inl (hw _ (List.mem_of_getElem? (i := 18) rfl))) (Or.inl (hw _ (List.mem_of_getElem? (i := 25) rfl))) (by decide) (t := (.array .int)) (t' := .int) (by decide) (by decide)))
        have fa101 := fa29.other W94 (Or.inr (slot_ne (Or.inl (hw _ (List.mem_of_getElem? (i := 27) rfl))) (Or.inl (hw _ (List.mem_of_getElem? (i := 25) rfl))) (by decide) (t := .long) (t' := .int) (by decide) (by decide)))
        have fa102 := fa30.other W94 (Or.inr (slot_ne (Or.inl (hw _ (List.mem_of_getElem? (i := 29) rfl))) (Or.inl (hw _ (List.mem_of_getElem? (i := 25) rfl))) (by decide) (t := .long) (t' := .int) (by decide) (by decide)))
        have fa103 := fa31.other W94 (Ne.symm ne_oa_oe)
        have fa104 := fa32.other W94 (Ne.symm ne_oa_oc)
        have fa105 := fa33.other W94 (Ne.symm ne_oa_oo)
        have fa106 := Fw22.other W94 (Ne.symm ne_oa_os)
        have Fw94 := fa28.same W94
        have N94 := Fr.snoc X94 N22 g_oa
        have KK94 : Keep h0 h94 [oa, os] := KK22.wr W94 (Or.inl (List.mem_of_getElem? (i := 0) rfl))
        have ZZ94 : n0 ≤ h94.size := Nat.le_trans ZZ22 (Keep.of_wr W94).1
        refine own_go (T' := T94) (f' := (mkF m 33 #[.val (.ref oa), .val (.int (2 : Int32))] [])) ?_ (st94)
        refine own_go (T' := T94) (f' := (mkF m 34 #[.val (.ref oa), .val (.int (2 : Int32))] [(.ref oa)])) ?_ (fun _ k => XS.aloadN X94.here hx rfl (hb hby own_d9_33) rfl rfl k)
        refine own_go (T' := T94) (f' := (mkF m 35 #[.val (.ref oa), .val (.int (2 : Int32))] [(.long (0 : Int64)), (.ref oa)])) ?_ (fun _ k => XS.lconst X94.here hx rfl (hb hby own_d9_34) k)
        obtain ⟨T107, h107, X107, e107, W107, st107⟩ := putF X94 hx hZ hown (host := "") (Or.inl (hw _ (List.mem_of_getElem? (i := 26) rfl))) Via.refl e94 fa101 fa95 (Or.inl (hw _ (List.mem_of_getElem? (i := 27) rfl))) (hw _ (List.mem_of_getElem? (i := 1) rfl)) (ty := .long) (by decide) rfl rfl (g := (mkF m 35 #[.val (.ref oa), .val (.int (2 : Int32))] [(.long (0 : Int64)), (.ref oa)])) rfl rfl (hb hby own_d9_35)
        have fa108 := fa95.wr W107
        have fa109 := fa96.other W107 (Or.inr (slot_ne (Or.inl (hw _ (List.mem_of_getElem? (i := 11) rfl))) (Or.inl (hw _ (List.mem_of_getElem? (i := 27) rfl))) (by decide) (t := (.array .int)) (t' := .long) (by decide) (by decide)))
        have fa110 := fa97.other W107 (Or.inr (slot_ne (Or.inl (hw _ (List.mem_of_getElem? (i := 14) rfl))) (Or.inl (hw _ (List.mem_of_getElem? (i := 27) rfl))) (by decide) (t := (.array .long)) (t' := .long) (by decide) (by decide)))
        have fa111 := fa98.other W107 (Or.inr (slot_ne (Or.inl (hw _ (List.mem_of_getElem? (i := 16) rfl))) (Or.inl (hw _ (List.mem_of_getElem? (i := 27) rfl))) (by decide) (t := (.array .int)) (t' := .long) (by decide) (by decide)))
        have fa112 := fa99.other W107 (Or.inr (slot_ne (Or.inl (hw _ (List.mem_of_getElem? (i := 18) rfl))) (Or.inl (hw _ (List.mem_of_getElem? (i := 27) rfl))) (by decide) (t := (.array .int)) (t' := .long) (by decide) (by decide)))
        have fa114 := fa102.other W107 (Or.inr (slot_ne (Or.inl (hw _ (List.mem_of_getElem? (i := 29) rfl))) (Or.inl (hw _ (List.mem_of_getElem? (i := 27) rfl))) (by decide) (t := .long) (t' := .long) (by decide) (by decide)))
        have fa115 := fa103.other W107 (Ne.symm ne_oa_oe)
        have fa116 := fa104.other W107 (Ne.symm ne_oa_oc)
        have fa117 := fa105.other W107 (Ne.symm ne_oa_oo)
        have fa118 := fa106.other W107 (Ne.symm ne_oa_os)
        have fa119 := Fw94.other W107 (Or.inr (slot_ne (Or.inl (hw _ (List.mem_of_getElem? (i := 25) rfl))) (Or.inl (hw _ (List.mem_of_getElem? (i := 27) rfl))) (by decide) (t := .int) (t' := .long) (by decide) (by decide)))
        have Fw107 := fa101.same W107
        have N107 := Fr.snoc X107 N94 g_oa
        have KK107 : Keep h0 h107 [oa, os] := KK94.wr W107 (Or.inl (List.mem_of_getElem? (i := 0) rfl))
        have ZZ107 : n0 ≤ h107.size := Nat.le_trans ZZ94 (Keep.of_wr W107).1
        refine own_go (T' := T107) (f' := (mkF m 38 #[.val (.ref oa), .val (.int (2 : Int32))] [])) ?_ (st107)
        refine own_go (T' := T107) (f' := (mkF m 39 #[.val (.ref oa), .val (.int (2 : Int32))] [(.ref oa)])) ?_ (fun _ k => XS.aloadN X107.here hx rfl (hb hby own_d9_38) rfl rfl k)
        refine own_go (T' := T107) (f' := (mkF m 40 #[.val (.ref oa), .val (.int (2 : Int32))] [(.long (0 : Int64)), (.ref oa)])) ?_ (fun _ k => XS.lconst X107.here hx rfl (hb hby own_d9_39) k)
        obtain ⟨T120, h120, X120, e120, W120, st120⟩ := putF X107 hx hZ hown (host := "") (Or.inl (hw _ (List.mem_of_getElem? (i := 28) rfl))) Via.refl e107 fa114 fa108 (Or.inl (hw _ (List.mem_of_getElem? (i := 29) rfl))) (hw _ (List.mem_of_getElem? (i := 1) rfl)) (ty := .long) (by decide) rfl rfl (g := (mkF m 40 #[.val (.ref oa), .val (.int (2 : Int32))] [(.long (0 : Int64)), (.ref oa)])) rfl rfl (hb hby own_d9_40)
        have fa121 := fa108.wr W120
        have fa122 := fa109.other W120 (Or.inr (slot_ne (Or.inl (hw _ (List.mem_of_getElem? (i := 11) rfl))) (Or.inl (hw _ (List.mem_of_getElem? (i := 29) rfl))) (by decide) (t := (.array .int)) (t' := .long) (by decide) (by decide)))
        have fa123 := fa110.other W120 (Or.inr (slot_ne (Or.inl (hw _ (List.mem_of_getElem? (i := 14) rfl))) (Or.inl (hw _ (List.mem_of_getElem? (i := 29) rfl))) (by decide) (t := (.array .long)) (t' := .long) (by decide) (by decide)))
        have fa124 := fa111.other W120 (Or.inr (slot_ne (Or.inl (hw _ (List.mem_of_getElem? (i := 16) rfl))) (Or.inl (hw _ (List.mem_of_getElem? (i := 29) rfl))) (by decide) (t := (.array .int)) (t' := .long) (by decide) (by decide)))
        have fa125 := fa112.other W120 (Or.inr (slot_ne (Or.inl (hw _ (List.mem_of_getElem? (i := 18) rfl))) (Or.inl (hw _ (List.mem_of_getElem? (i := 29) rfl))) (by decide) (t := (.array .int)) (t' := .long) (by decide) (by decide)))
        have fa127 := fa115.other W120 (Ne.symm ne_oa_oe)
        have fa128 := fa116.other W120 (Ne.symm ne_oa_oc)
        have fa129 := fa117.other W120 (Ne.symm ne_oa_oo)
        have fa130 := fa118.other W120 (Ne.symm ne_oa_os)
        have fa131 := fa119.other W120 (Or.inr (slot_ne (Or.inl (hw _ (List.mem_of_getElem? (i := 25) rfl))) (Or.inl (hw _ (List.mem_of_getElem? (i := 29) rfl))) (by decide) (t := .int) (t' := .long) (by decide) (by decide)))
        have fa132 := Fw107.other W120 (Or.inr (slot_ne (Or.inl (hw _ (List.mem_of_getElem? (i := 27) rfl))) (Or.inl (hw _ (List.mem_of_getElem? (i := 29) rfl))) (by decide) (t := .long) (t' := .long) (by decide) (by decide)))
        have Fw120 := fa114.same W120
        have N120 := Fr.snoc X120 N107 g_oa
        have KK120 : Keep h0 h120 [oa, os] := KK107.wr W120 (Or.inl (List.mem_of_getElem? (i := 0) rfl))
        have ZZ120 : n0 ≤ h120.size := Nat.le_trans ZZ107 (Keep.of_wr W120).1
        refine own_go (T' := T120) (f' := (mkF m 43 #[.val (.ref oa), .val (.int (2 : Int32))] [])) ?_ (st120)
        obtain ⟨fs133, hr133, hrun133, hended133, hW133, hsame133⟩ := X120.leave (v := none) (fun _ => rfl)
        refine ⟨_, ⟨_, hrun133, hended133, _, _, rfl, ?_, ⟨_, rfl⟩, hW133, hsame133.mono (by decide) (by decide)⟩, fun _ k => (X120.returnOut hx Bd.returns (hb hby own_d9_43) hr133).trans k⟩
        show own_Q9 Z oa oe oc oo os nd tt ig LE LC LO LS bb h0 n0 _ T120.heap _
        rw [e120]
        exact ⟨rfl, N120, KK120, fa122, fa123, fa124, fa125, fa131, fa132, Fw120, (by rw [show [(0 : Int32), (0 : Int32), (0 : Int32), (0 : Int32), (0 : Int32), (0 : Int32), (0 : Int32), (0 : Int32), (0 : Int32), (0 : Int32), (0 : Int32), (0 : Int32), (0 : Int32), (0 : Int32), (0 : Int32), (0 : Int32)] = ((LS.set ((LO.getD ((0 : Int32)).toNatClampNeg 0)).toNatClampNeg (0 : Int32)).set ((LO.getD ((1 : Int32)).toNatClampNeg 0)).toNatClampNeg (0 : Int32)) from (own_clear2 hv hb_ A_os hc7_2 hc7_19 hc7_36).symm]; exact fa130)⟩
    · refine own_go (T' := T18) (f' := (mkF m 28 #[.val (.ref oa), .val (.int (1 : Int32))] [])) ?_ (fun _ k => XS.icmpYes X18.here hx rfl (pc0 := 7) (pc' := 28) rfl (hb hby own_d9_7) rfl (flt hc7_19).2.1 (by decide) (by decide) k)
      refine own_go (T' := T18) (f' := (mkF m 29 #[.val (.ref oa), .val (.int (1 : Int32))] [(.ref oa)])) ?_ (fun _ k => XS.aloadN X18.here hx rfl (hb hby own_d9_28) rfl rfl k)
      refine own_go (T' := T18) (f' := (mkF m 30 #[.val (.ref oa), .val (.int (1 : Int32))] [(.int (0 : Int32)), (.ref oa)])) ?_ (fun _ k => XS.iconst X18.here hx rfl (hb hby own_d9_29) k)
      obtain ⟨T134, h134, X134, e134, W134, st134⟩ := putF X18 hx hZ hown (host := "") (Or.inl (hw _ (List.mem_of_getElem? (i := 24) rfl))) Via.refl e18 fa11 fa6 (Or.inl (hw _ (List.mem_of_getElem? (i := 25) rfl))) (hw _ (List.mem_of_getElem? (i := 1) rfl)) (ty := .int) (by decide) rfl rfl (g := (mkF m 30 #[.val (.ref oa), .val (.int (1 : Int32))] [(.int (0 : Int32)), (.ref oa)])) rfl rfl (hb hby own_d9_30)
      have fa135 := fa6.wr W134
      have fa136 := fa7.other W134 (Or.inr (slot_ne (Or.inl (hw _ (List.mem_of_getElem? (i := 11) rfl))) (Or.inl (hw _ (List.mem_of_getElem? (i := 25) rfl))) (by decide) (t := (.array .int)) (t' := .int) (by decide) (by decide)))
      have fa137 := fa8.other W134 (Or.inr (slot_ne (Or.inl (hw _ (List.mem_of_getElem? (i := 14) rfl))) (Or.inl (hw _ (List.mem_of_getElem? (i := 25) rfl))) (by decide) (t := (.array .long)) (t' := .int) (by decide) (by decide)))
      have fa138 := fa9.other W134 (Or.inr (slot_ne (Or.inl (hw _ (List.mem_of_getElem? (i := 16) rfl))) (Or.inl (hw _ (List.mem_of_getElem? (i := 25) rfl))) (by decide) (t := (.array .int)) (t' := .int) (by decide) (by decide)))
      have fa139 := fa10.other W134 (Or.inr (slot_ne (Or.inl (hw _ (List.mem_of_getElem? (i := 18) rfl))) (Or.inl (hw _ (List.mem_of_getElem? (i := 25) rfl))) (by decide) (t := (.array .int)) (t' := .int) (by decide) (by decide)))
      have fa141 := fa12.other W134 (Or.inr (slot_ne (Or.inl (hw _ (List.mem_of_getElem? (i := 27) rfl))) (Or.inl (hw _ (List.mem_of_getElem? (i := 25) rfl))) (by decide) (t := .long) (t' := .int) (by decide) (by decide)))
      have fa142 := fa13.other W134 (Or.inr (slot_ne (Or.inl (hw _ (List.mem_of_getElem? (i := 29) rfl))) (Or.inl (hw _ (List.mem_of_getElem? (i := 25) rfl))) (by decide) (t := .long) (t' := .int) (by decide) (by decide)))
      have fa143 := fa14.other W134 (Ne.symm ne_oa_oe)
      have fa144 := fa15.other W134 (Ne.symm ne_oa_oc)
      have fa145 := fa16.other W134 (Ne.symm ne_oa_oo)
      have fa146 := Fw5.other W134 (Ne.symm ne_oa_os)
      have Fw134 := fa11.same W134
      have N134 := Fr.snoc X134 N5 g_oa
      have KK134 : Keep h0 h134 [oa, os] := KK5.wr W134 (Or.inl (List.mem_of_getElem? (i := 0) rfl))
      have ZZ134 : n0 ≤ h134.size := Nat.le_trans ZZ5 (Keep.of_wr W134).1
      refine own_go (T' := T134) (f' := (mkF m 33 #[.val (.ref oa), .val (.int (1 : Int32))] [])) ?_ (st134)
      refine own_go (T' := T134) (f' := (mkF m 34 #[.val (.ref oa), .val (.int (1 : Int32))] [(.ref oa)])) ?_ (fun _ k => XS.aloadN X134.here hx rfl (hb hby own_d9_33) rfl rfl k)
      refine own_go (T' := T134) (f' := (mkF m 35 #[.val (.ref oa), .val (.int (1 : Int32))] [(.long (0 : Int64)), (.ref oa)])) ?_ (fun _ k => XS.lconst X134.here hx rfl (hb hby own_d9_34) k)
      obtain ⟨T147, h147, X147, e147, W147, st147⟩ := putF X134 hx hZ hown (host := "") (Or.inl (hw _ (List.mem_of_getElem? (i := 26) rfl))) Via.refl e134 fa141 fa135 (Or.inl (hw _ (List.mem_of_getElem? (i := 27) rfl))) (hw _ (List.mem_of_getElem? (i := 1) rfl)) (ty := .long) (by decide) rfl rfl (g := (mkF m 35 #[.val (.ref oa), .val (.int (1 : Int32))] [(.long (0 : Int64)), (.ref oa)])) rfl rfl (hb hby own_d9_35)
      have fa148 := fa135.wr W147
      have fa149 := fa136.other W147 (Or.inr (slot_ne (Or.inl (hw _ (List.mem_of_getElem? (i := 11) rfl))) (Or.inl (hw _ (List.mem_of_getElem? (i := 27) rfl))) (by decide) (t := (.array .int)) (t' := .long) (by decide) (by decide)))
      have fa150 := fa137.other W147 (Or.inr (slot_ne (Or.inl (hw _ (List.mem_of_getElem? (i := 14) rfl))) (Or.inl (hw _ (List.mem_of_getElem? (i := 27) rfl))) (by decide) (t := (.array .long)) (t' := .long) (by decide) (by decide)))
      have fa151 := fa138.other W147 (Or.inr (slot_ne (Or.inl (hw _ (List.mem_of_getElem? (i := 16) rfl))) (Or.inl (hw _ (List.mem_of_getElem? (i := 27) rfl))) (by decide) (t := (.array .int)) (t' := .long) (by decide) (by decide)))
      have fa152 := fa139.other W147 (Or.inr (slot_ne (Or.inl (hw _ (List.mem_of_getElem? (i := 18) rfl))) (Or.inl (hw _ (List.mem_of_getElem? (i := 27) rfl))) (by decide) (t := (.array .int)) (t' := .long) (by decide) (by decide)))
      have fa154 := fa142.other W147 (Or.inr (slot_ne (Or.inl (hw _ (List.mem_of_getElem? (i := 29) rfl))) (Or.inl (hw _ (List.mem_of_getElem? (i := 27) rfl))) (by decide) (t := .long) (t' := .long) (by decide) (by decide)))
      have fa155 := fa143.other W147 (Ne.symm ne_oa_oe)
      have fa156 := fa144.other W147 (Ne.symm ne_oa_oc)
      have fa157 := fa145.other W147 (Ne.symm ne_oa_oo)
      have fa158 := fa146.other W147 (Ne.symm ne_oa_os)
      have fa159 := Fw134.other W147 (Or.inr (slot_ne (Or.inl (hw _ (List.mem_of_getElem? (i := 25) rfl))) (Or.inl (hw _ (List.mem_of_getElem? (i := 27) rfl))) (by decide) (t := .int) (t' := .long) (by decide) (by decide)))
      have Fw147 := fa141.same W147
      have N147 := Fr.snoc X147 N134 g_oa
      have KK147 : Keep h0 h147 [oa, os] := KK134.wr W147 (Or.inl (List.mem_of_getElem? (i := 0) rfl))
      have ZZ147 : n0 ≤ h147.size := Nat.le_trans ZZ134 (Keep.of_wr W147).1
      refine own_go (T' := T147) (f' := (mkF m 38 #[.val (.ref oa), .val (.int (1 : Int32))] [])) ?_ (st147)
      refine own_go (T' := T147) (f' := (mkF m 39 #[.val (.ref oa), .val (.int (1 : Int32))] [(.ref oa)])) ?_ (fun _ k => XS.aloadN X147.here hx rfl (hb hby own_d9_38) rfl rfl k)
      refine own_go (T' := T147) (f' := (mkF m 40 #[.val (.ref oa), .val (.int (1 : Int32))] [(.long (0 : Int64)), (.ref oa)])) ?_ (fun _ k => XS.lconst X147.here hx rfl (hb hby own_d9_39) k)
      obtain ⟨T160, h160, X160, e160, W160, st160⟩ := putF X147 hx hZ hown (host := "") (Or.inl (hw _ (List.mem_of_getElem? (i := 28) rfl))) Via.refl e147 fa154 fa148 (Or.inl (hw _ (List.mem_of_getElem? (i := 29) rfl))) (hw _ (List.mem_of_getElem? (i := 1) rfl)) (ty := .long) (by decide) rfl rfl (g := (mkF m 40 #[.val (.ref oa), .val (.int (1 : Int32))] [(.long (0 : Int64)), (.ref oa)])) rfl rfl (hb hby own_d9_40)
      have fa161 := fa148.wr W160
      have fa162 := fa149.other W160 (Or.inr (slot_ne (Or.inl (hw _ (List.mem_of_getElem? (i := 11) rfl))) (Or.inl (hw _ (List.mem_of_getElem? (i := 29) rfl))) (by decide) (t := (.array .int)) (t' := .long) (by decide) (by decide)))
      have fa163 := fa150.other W160 (Or.inr (slot_ne (Or.inl (hw _ (List.mem_of_getElem? (i := 14) rfl))) (Or.inl (hw _ (List.mem_of_getElem? (i := 29) rfl))) (by decide) (t := (.array .long)) (t' := .long) (by decide) (by decide)))
      have fa164 := fa151.other W160 (Or.inr (slot_ne (Or.inl (hw _ (List.mem_of_getElem? (i := 16) rfl))) (Or.inl (hw _ (List.mem_of_getElem? (i := 29) rfl))) (by decide) (t := (.array .int)) (t' := .long) (by decide) (by decide)))
      have fa165 := fa152.other W160 (Or.inr (slot_ne (Or.inl (hw _ (List.mem_of_getElem? (i := 18) rfl))) (Or.inl (hw _ (List.mem_of_getElem? (i := 29) rfl))) (by decide) (t := (.array .int)) (t' := .long) (by decide) (by decide)))
      have fa167 := fa155.other W160 (Ne.symm ne_oa_oe)
      have fa168 := fa156.other W160 (Ne.symm ne_oa_oc)
      have fa169 := fa157.other W160 (Ne.symm ne_oa_oo)
      have fa170 := fa158.other W160 (Ne.symm ne_oa_os)
      have fa171 := fa159.other W160 (Or.inr (slot_ne (Or.inl (hw _ (List.mem_of_getElem? (i := 25) rfl))) (Or.inl (hw _ (List.mem_of_getElem? (i := 29) rfl))) (by decide) (t := .int) (t' := .long) (by decide) (by decide)))
      have fa172 := Fw147.other W160 (Or.inr (slot_ne (Or.inl (hw _ (List.mem_of_getElem? (i := 27) rfl))) (Or.inl (hw _ (List.mem_of_getElem? (i := 29) rfl))) (by decide) (t := .long) (t' := .long) (by decide) (by decide)))
      have Fw160 := fa154.same W160
      have N160 := Fr.snoc X160 N147 g_oa
      have KK160 : Keep h0 h160 [oa, os] := KK147.wr W160 (Or.inl (List.mem_of_getElem? (i := 0) rfl))
      have ZZ160 : n0 ≤ h160.size := Nat.le_trans ZZ147 (Keep.of_wr W160).1
      refine own_go (T' := T160) (f' := (mkF m 43 #[.val (.ref oa), .val (.int (1 : Int32))] [])) ?_ (st160)
      obtain ⟨fs173, hr173, hrun173, hended173, hW173, hsame173⟩ := X160.leave (v := none) (fun _ => rfl)
      refine ⟨_, ⟨_, hrun173, hended173, _, _, rfl, ?_, ⟨_, rfl⟩, hW173, hsame173.mono (by decide) (by decide)⟩, fun _ k => (X160.returnOut hx Bd.returns (hb hby own_d9_43) hr173).trans k⟩
      show own_Q9 Z oa oe oc oo os nd tt ig LE LC LO LS bb h0 n0 _ T160.heap _
      rw [e160]
      exact ⟨rfl, N160, KK160, fa162, fa163, fa164, fa165, fa171, fa172, Fw160, (by rw [show [(0 : Int32), (0 : Int32), (0 : Int32), (0 : Int32), (0 : Int32), (0 : Int32), (0 : Int32), (0 : Int32), (0 : Int32), (0 : Int32), (0 : Int32), (0 : Int32), (0 : Int32), (0 : Int32), (0 : Int32), (0 : Int32)] = (LS.set ((LO.getD ((0 : Int32)).toNatClampNeg 0)).toNatClampNeg (0 : Int32)) from (own_clear1 hv hb_ A_os hc7_2 hc7_19).symm]; exact fa170)⟩
  · refine own_go (T' := T1) (f' := (mkF m 28 #[.val (.ref oa), .val (.int (0 : Int32))] [])) ?_ (fun _ k => XS.icmpYes X1.here hx rfl (pc0 := 7) (pc' := 28) rfl (hb hby own_d9_7) rfl (flt hc7_2).2.1 (by decide) (by decide) k)
    refine own_go (T' := T1) (f' := (mkF m 29 #[.val (.ref oa), .val (.int (0 : Int32))] [(.ref oa)])) ?_ (fun _ k => XS.aloadN X1.here hx rfl (hb hby own_d9_28) rfl rfl k)
    refine own_go (T' := T1) (f' := (mkF m 30 #[.val (.ref oa), .val (.int (0 : Int32))] [(.int (0 : Int32)), (.ref oa)])) ?_ (fun _ k => XS.iconst X1.here hx rfl (hb hby own_d9_29) k)
    obtain ⟨T174, h174, X174, e174, W174, st174⟩ := putF X1 hx hZ hown (host := "") (Or.inl (hw _ (List.mem_of_getElem? (i := 24) rfl))) Via.refl e1 F__distinct_oa E_oa (Or.inl (hw _ (List.mem_of_getElem? (i := 25) rfl))) (hw _ (List.mem_of_getElem? (i := 1) rfl)) (ty := .int) (by decide) rfl rfl (g := (mkF m 30 #[.val (.ref oa), .val (.int (0 : Int32))] [(.int (0 : Int32)), (.ref oa)])) rfl rfl (hb hby own_d9_30)
    have fa175 := E_oa.wr W174
    have fa176 := F__events_oa.other W174 (Or.inr (slot_ne (Or.inl (hw _ (List.mem_of_getElem? (i := 11) rfl))) (Or.inl (hw _ (List.mem_of_getElem? (i := 25) rfl))) (by decide) (t := (.array .int)) (t' := .int) (by decide) (by decide)))
    have fa177 := F__counts_oa.other W174 (Or.inr (slot_ne (Or.inl (hw _ (List.mem_of_getElem? (i := 14) rfl))) (Or.inl (hw _ (List.mem_of_getElem? (i := 25) rfl))) (by decide) (t := (.array .long)) (t' := .int) (by decide) (by decide)))
    have fa178 := F__slotOf_oa.other W174 (Or.inr (slot_ne (Or.inl (hw _ (List.mem_of_getElem? (i := 16) rfl))) (Or.inl (hw _ (List.mem_of_getElem? (i := 25) rfl))) (by decide) (t := (.array .int)) (t' := .int) (by decide) (by decide)))
    have fa179 := F__slots_oa.other W174 (Or.inr (slot_ne (Or.inl (hw _ (List.mem_of_getElem? (i := 18) rfl))) (Or.inl (hw _ (List.mem_of_getElem? (i := 25) rfl))) (by decide) (t := (.array .int)) (t' := .int) (by decide) (by decide)))
    have fa181 := F__total_oa.other W174 (Or.inr (slot_ne (Or.inl (hw _ (List.mem_of_getElem? (i := 27) rfl))) (Or.inl (hw _ (List.mem_of_getElem? (i := 25) rfl))) (by decide) (t := .long) (t' := .int) (by decide) (by decide)))
    have fa182 := F__ignored_oa.other W174 (Or.inr (slot_ne (Or.inl (hw _ (List.mem_of_getElem? (i := 29) rfl))) (Or.inl (hw _ (List.mem_of_getElem? (i := 25) rfl))) (by decide) (t := .long) (t' := .int) (by decide) (by decide)))
    have fa183 := A_oe.other W174 (Ne.symm ne_oa_oe)
    have fa184 := A_oc.other W174 (Ne.symm ne_oa_oc)
    have fa185 := A_oo.other W174 (Ne.symm ne_oa_oo)
    have fa186 := A_os.other W174 (Ne.symm ne_oa_os)
    have Fw174 := F__distinct_oa.same W174
    have N174 := Fr.snoc X174 N0 g_oa
    have KK174 : Keep h0 h174 [oa, os] := (Keep.refl h0 [oa, os]).wr W174 (Or.inl (List.mem_of_getElem? (i := 0) rfl))
    have ZZ174 : n0 ≤ h174.size := Nat.le_trans Z0 (Keep.of_wr W174).1
    refine own_go (T' := T174) (f' := (mkF m 33 #[.val (.ref oa), .val (.int (0 : Int32))] [])) ?_ (st174)
    refine own_go (T' := T174) (f' := (mkF m 34 #[.val (.ref oa), .val (.int (0 : Int32))] [(.ref oa)])) ?_ (fun _ k => XS.aloadN X174.here hx rfl (hb hby own_d9_33) rfl rfl k)
    refine own_go (T' := T174) (f' := (mkF m 35 #[.val (.ref oa), .val (.int (0 : Int32))] [(.long (0 : Int64)), (.ref oa)])) ?_ (fun _ k => XS.lconst X174.here hx rfl (hb hby own_d9_34) k)
    obtain ⟨T187, h187, X187, e187, W187, st187⟩ := putF X174 hx hZ hown (host := "") (Or.inl (hw _ (List.mem_of_getElem? (i := 26) rfl))) Via.refl e174 fa181 fa175 (Or.inl (hw _ (List.mem_of_getElem? (i := 27) rfl))) (hw _ (List.mem_of_getElem? (i := 1) rfl)) (ty := .long) (by decide) rfl rfl (g := (mkF m 35 #[.val (.ref oa), .val (.int (0 : Int32))] [(.long (0 : Int64)), (.ref oa)])) rfl rfl (hb hby own_d9_35)
    have fa188 := fa175.wr W187
    have fa189 := fa176.other W187 (Or.inr (slot_ne (Or.inl (hw _ (List.mem_of_getElem? (i := 11) rfl))) (Or.inl (hw _ (List.mem_of_getElem? (i := 27) rfl))) (by decide) (t := (.array .int)) (t' := .long) (by decide) (by decide)))
    have fa190 := fa177.other W187 (Or.inr (slot_ne (Or.inl (hw _ (List.mem_of_getElem? (i := 14) rfl))) (Or.inl (hw _ (List.mem_of_getElem? (i := 27) rfl))) (by decide) (t := (.array .long)) (t' := .long) (by decide) (by decide)))
    have fa191 := fa178.other W187 (Or.inr (slot_ne (Or.inl (hw _ (List.mem_of_getElem? (i := 16) rfl))) (Or.inl (hw _ (List.mem_of_getElem? (i := 27) rfl))) (by decide) (t := (.array .int)) (t' := .long) (by decide) (by decide)))
    have fa192 := fa179.other W187 (Or.inr (slot_ne (Or.inl (hw _ (List.mem_of_getElem? (i := 18) rfl))) (Or.inl (hw _ (List.mem_of_getElem? (i := 27) rfl))) (by decide) (t := (.array .int)) (t' := .long) (by decide) (by decide)))
    have fa194 := fa182.other W187 (Or.inr (slot_ne (Or.inl (hw _ (List.mem_of_getElem? (i := 29) rfl))) (Or.inl (hw _ (List.mem_of_getElem? (i := 27) rfl))) (by decide) (t := .long) (t' := .long) (by decide) (by decide)))
    have fa195 := fa183.other W187 (Ne.symm ne_oa_oe)
    have fa196 := fa184.other W187 (Ne.symm ne_oa_oc)
    have fa197 := fa185.other W187 (Ne.symm ne_oa_oo)
    have fa198 := fa186.other W187 (Ne.symm ne_oa_os)
    have fa199 := Fw174.other W187 (Or.inr (slot_ne (Or.inl (hw _ (List.mem_of_getElem? (i := 25) rfl))) (Or.inl (hw _ (List.mem_of_getElem? (i := 27) rfl))) (by decide) (t := .int) (t' := .long) (by decide) (by decide)))
    have Fw187 := fa181.same W187
    have N187 := Fr.snoc X187 N174 g_oa
    have KK187 : Keep h0 h187 [oa, os] := KK174.wr W187 (Or.inl (List.mem_of_getElem? (i := 0) rfl))
    have ZZ187 : n0 ≤ h187.size := Nat.le_trans ZZ174 (Keep.of_wr W187).1
    refine own_go (T' := T187) (f' := (mkF m 38 #[.val (.ref oa), .val (.int (0 : Int32))] [])) ?_ (st187)
    refine own_go (T' := T187) (f' := (mkF m 39 #[.val (.ref oa), .val (.int (0 : Int32))] [(.ref oa)])) ?_ (fun _ k => XS.aloadN X187.here hx rfl (hb hby own_d9_38) rfl rfl k)
    refine own_go (T' := T187) (f' := (mkF m 40 #[.val (.ref oa), .val (.int (0 : Int32))] [(.long (0 : Int64)), (.ref oa)])) ?_ (fun _ k => XS.lconst X187.here hx rfl (hb hby own_d9_39) k)
    obtain ⟨T200, h200, X200, e200, W200, st200⟩ := putF X187 hx hZ hown (host := "") (Or.inl (hw _ (List.mem_of_getElem? (i := 28) rfl))) Via.refl e187 fa194 fa188 (Or.inl (hw _ (List.mem_of_getElem? (i := 29) rfl))) (hw _ (List.mem_of_getElem? (i := 1) rfl)) (ty := .long) (by decide) rfl rfl (g := (mkF m 40 #[.val (.ref oa), .val (.int (0 : Int32))] [(.long (0 : Int64)), (.ref oa)])) rfl rfl (hb hby own_d9_40)
    have fa201 := fa188.wr W200
    have fa202 := fa189.other W200 (Or.inr (slot_ne (Or.inl (hw _ (List.mem_of_getElem? (i := 11) rfl))) (Or.inl (hw _ (List.mem_of_getElem? (i := 29) rfl))) (by decide) (t := (.array .int)) (t' := .long) (by decide) (by decide)))
    have fa203 := fa190.other W200 (Or.inr (slot_ne (Or.inl (hw _ (List.mem_of_getElem? (i := 14) rfl))) (Or.inl (hw _ (List.mem_of_getElem? (i := 29) rfl))) (by decide) (t := (.array .long)) (t' := .long) (by decide) (by decide)))
    have fa204 := fa191.other W200 (Or.inr (slot_ne (Or.inl (hw _ (List.mem_of_getElem? (i := 16) rfl))) (Or.inl (hw _ (List.mem_of_getElem? (i := 29) rfl))) (by decide) (t := (.array .int)) (t' := .long) (by decide) (by decide)))
    have fa205 := fa192.other W200 (Or.inr (slot_ne (Or.inl (hw _ (List.mem_of_getElem? (i := 18) rfl))) (Or.inl (hw _ (List.mem_of_getElem? (i := 29) rfl))) (by decide) (t := (.array .int)) (t' := .long) (by decide) (by decide)))
    have fa207 := fa195.other W200 (Ne.symm ne_oa_oe)
    have fa208 := fa196.other W200 (Ne.symm ne_oa_oc)
    have fa209 := fa197.other W200 (Ne.symm ne_oa_oo)
    have fa210 := fa198.other W200 (Ne.symm ne_oa_os)
    have fa211 := fa199.other W200 (Or.inr (slot_ne (Or.inl (hw _ (List.mem_of_getElem? (i := 25) rfl))) (Or.inl (hw _ (List.mem_of_getElem? (i := 29) rfl))) (by decide) (t := .int) (t' := .long) (by decide) (by decide)))
    have fa212 := Fw187.other W200 (Or.inr (slot_ne (Or.inl (hw _ (List.mem_of_getElem? (i := 27) rfl))) (Or.inl (hw _ (List.mem_of_getElem? (i := 29) rfl))) (by decide) (t := .long) (t' := .long) (by decide) (by decide)))
    have Fw200 := fa194.same W200
    have N200 := Fr.snoc X200 N187 g_oa
    have KK200 : Keep h0 h200 [oa, os] := KK187.wr W200 (Or.inl (List.mem_of_getElem? (i := 0) rfl))
    have ZZ200 : n0 ≤ h200.size := Nat.le_trans ZZ187 (Keep.of_wr W200).1
    refine own_go (T' := T200) (f' := (mkF m 43 #[.val (.ref oa), .val (.int (0 : Int32))] [])) ?_ (st200)
    obtain ⟨fs213, hr213, hrun213, hended213, hW213, hsame213⟩ := X200.leave (v := none) (fun _ => rfl)
    refine ⟨_, ⟨_, hrun213, hended213, _, _, rfl, ?_, ⟨_, rfl⟩, hW213, hsame213.mono (by decide) (by decide)⟩, fun _ k => (X200.returnOut hx Bd.returns (hb hby own_d9_43) hr213).trans k⟩
    show own_Q9 Z oa oe oc oo os nd tt ig LE LC LO LS bb h0 n0 _ T200.heap _
    rw [e200]
    exact ⟨rfl, N200, KK200, fa202, fa203, fa204, fa205, fa211, fa212, Fw200, (by rw [show [(0 : Int32), (0 : Int32), (0 : Int32), (0 : Int32), (0 : Int32), (0 : Int32), (0 : Int32), (0 : Int32), (0 : Int32), (0 : Int32), (0 : Int32), (0 : Int32), (0 : Int32), (0 : Int32), (0 : Int32), (0 : Int32)] = LS from (own_clear0 hv hb_ A_os hc7_2).symm]; exact fa210)⟩
def own_spec (xa nd : Int32) (tt ig : Int64) (LS : List Int32) (nd_ : Int32) (tt_ ig_ : Int64) (LE_ : List Int32) (LC_ : List Int64) : Prop := (xa < (0 : Int32) → nd_ = nd ∧ tt_ = tt ∧ ig_ = ig + 1) ∧ (¬ xa < (0 : Int32) → tt_ = tt + 1 ∧ ig_ = ig ∧ (nd = 0 → (∀ k, k < 16 → LS.getD k 0 = 0) → nd_ = 1 ∧ LE_.getD 0 0 = xa ∧ LC_.getD 0 0 = 1))
theorem own_and15 (y : Int32) : (y &&& (15 : Int32)).toInt = y.toInt % 16 := Jvm.Kit.i32_mask y 15 (k := 4) (by decide) (by decide)
theorem own_h15 (y : Int32) : ¬ (y &&& (15 : Int32)) < 0 ∧ (y &&& (15 : Int32)) < (16 : Int32) := by
  rw [own_lt32, own_lt32, own_and15, show (0 : Int32).toInt = 0 from rfl, show (16 : Int32).toInt = 16 from rfl]; omega
theorem own_nd4 {b : Nat} {nd : Int32} {LO LS : List Int32} (hv : own_inv b nd LO LS) (hb : b ≤ 3) : ¬ (nd = (4 : Int32)) := by
  obtain ⟨d, h1, h2, h3, h4⟩ := own_open hv hb
  rw [own_eq32, h1, show (4 : Int32).toInt = 4 from rfl]; omega
theorem own_ndi {b : Nat} {nd : Int32} {LO LS : List Int32} (hv : own_inv b nd LO LS) (hb : b ≤ 3) : ¬ nd < 0 ∧ nd < (4 : Int32) := by
  obtain ⟨d, h1, h2, h3, h4⟩ := own_open hv hb
  rw [own_lt32, own_lt32, h1, show (0 : Int32).toInt = 0 from rfl, show (4 : Int32).toInt = 4 from rfl]; omega
theorem own_nd16 {b : Nat} {nd : Int32} {LO LS : List Int32} (hv : own_inv b nd LO LS) (hb : b ≤ 3) : ¬ ((16 : Int32) < ((2 : Int32) * (nd + (1 : Int32)))) := by
  obtain ⟨d, h1, h2, h3, h4⟩ := own_open hv hb
  have e1 : (1 : Int32).toInt = 1 := rfl
  have e2 : (2 : Int32).toInt = 2 := rfl
  have a := own_add_ok (x := nd) (y := (1 : Int32)) (by omega) (by omega)
  have m : ((2 : Int32) * (nd + (1 : Int32))).toInt = 2 * (nd + (1 : Int32)).toInt := by rw [Jvm.Kit.i32_mul (by rw [e2]; omega) (by rw [e2]; omega), e2]
  rw [own_lt32, m, a, h1, e1, show (16 : Int32).toInt = 16 from rfl]; omega
theorem own_slot {b : Nat} {nd : Int32} {LO LS : List Int32} (hv : own_inv b nd LO LS) (hb : b ≤ 3) {j : Int32} (h : ¬ (LS.getD j.toNatClampNeg 0 = (0 : Int32))) (hj : ¬ j < 0 ∧ j < (16 : Int32)) : ¬ (LS.getD j.toNatClampNeg 0 - (1 : Int32)) < 0 ∧ (LS.getD j.toNatClampNeg 0 - (1 : Int32)) < (4 : Int32) := by
  obtain ⟨d, h1, h2, h3, h4⟩ := own_open hv hb
  rw [own_lt32, own_lt32, show (0 : Int32).toInt = 0 from rfl, show (16 : Int32).toInt = 16 from rfl] at hj
  have n := own_nat32 (x := j) (by omega)
  obtain ⟨i, hi, -, e⟩ := h4 _ (by omega) h
  have e1 : (1 : Int32).toInt = 1 := rfl
  have ei : (Int32.ofNat (i + 1)).toInt = ((i + 1 : Nat) : Int) := own_ofNat_toInt (by omega)
  have s := own_sub_ok (x := Int32.ofNat (i + 1)) (y := (1 : Int32)) (by omega) (by omega)
  rw [e, own_lt32, own_lt32, s, ei, e1, show (0 : Int32).toInt = 0 from rfl, show (4 : Int32).toInt = 4 from rfl]; omega

theorem own_d10_0 : decode prog_66_method_3_code 0 = .ok (.iload_n 1, 1) := by decide +kernel
theorem own_d10_1 : decode prog_66_method_3_code 1 = .ok (.ifCond .ge 14, 3) := by decide +kernel
theorem own_d10_4 : decode prog_66_method_3_code 4 = .ok (.aload_n 0, 1) := by decide +kernel
theorem own_d10_5 : decode prog_66_method_3_code 5 = .ok (.dup, 1) := by decide +kernel
theorem own_d10_6 : decode prog_66_method_3_code 6 = .ok (.getfield 31, 3) := by decide +kernel
theorem own_d10_9 : decode prog_66_method_3_code 9 = .ok (.lconst 1, 1) := by decide +kernel
theorem own_d10_10 : decode prog_66_method_3_code 10 = .ok (.ladd, 1) := by decide +kernel
theorem own_d10_11 : decode prog_66_method_3_code 11 = .ok (.putfield 31, 3) := by decide +kernel
theorem own_d10_14 : decode prog_66_method_3_code 14 = .ok (.return_, 1) := by decide +kernel
theorem own_d10_15 : decode prog_66_method_3_code 15 = .ok (.aload_n 0, 1) := by decide +kernel
theorem own_d10_16 : decode prog_66_method_3_code 16 = .ok (.dup, 1) := by decide +kernel
theorem own_d10_17 : decode prog_66_method_3_code 17 = .ok (.getfield 27, 3) := by decide +kernel
theorem own_d10_20 : decode prog_66_method_3_code 20 = .ok (.lconst 1, 1) := by decide +kernel
theorem own_d10_21 : decode prog_66_method_3_code 21 = .ok (.ladd, 1) := by decide +kernel
theorem own_d10_22 : decode prog_66_method_3_code 22 = .ok (.putfield 27, 3) := by decide +kernel
theorem own_d10_25 : decode prog_66_method_3_code 25 = .ok (.aload_n 0, 1) := by decide +kernel
theorem own_d10_26 : decode prog_66_method_3_code 26 = .ok (.getfield 20, 3) := by decide +kernel
theorem own_d10_29 : decode prog_66_method_3_code 29 = .ok (.arraylength, 1) := by decide +kernel
theorem own_d10_30 : decode prog_66_method_3_code 30 = .ok (.iconst 1, 1) := by decide +kernel
theorem own_d10_31 : decode prog_66_method_3_code 31 = .ok (.isub, 1) := by decide +kernel
theorem own_d10_32 : decode prog_66_method_3_code 32 = .ok (.istore_n 2, 1) := by decide +kernel
theorem own_d10_33 : decode prog_66_method_3_code 33 = .ok (.iload_n 1, 1) := by decide +kernel
theorem own_d10_34 : decode prog_66_method_3_code 34 = .ok (.ldc 34, 2) := by decide +kernel
theorem own_d10_36 : decode prog_66_method_3_code 36 = .ok (.imul, 1) := by decide +kernel
theorem own_d10_37 : decode prog_66_method_3_code 37 = .ok (.iload_n 2, 1) := by decide +kernel
theorem own_d10_38 : decode prog_66_method_3_code 38 = .ok (.iand, 1) := by decide +kernel
theorem own_d10_39 : decode prog_66_method_3_code 39 = .ok (.istore_n 3, 1) := by decide +kernel
theorem own_d10_40 : decode prog_66_method_3_code 40 = .ok (.aload_n 0, 1) := by decide +kernel
theorem own_d10_41 : decode prog_66_method_3_code 41 = .ok (.getfield 20, 3) := by decide +kernel
theorem own_d10_44 : decode prog_66_method_3_code 44 = .ok (.iload_n 3, 1) := by decide +kernel
theorem own_d10_45 : decode prog_66_method_3_code 45 = .ok (.iaload, 1) := by decide +kernel
theorem own_d10_46 : decode prog_66_method_3_code 46 = .ok (.ifCond .eq 45, 3) := by decide +kernel
theorem own_d10_49 : decode prog_66_method_3_code 49 = .ok (.aload_n 0, 1) := by decide +kernel
theorem own_d10_50 : decode prog_66_method_3_code 50 = .ok (.getfield 20, 3) := by decide +kernel
theorem own_d10_53 : decode prog_66_method_3_code 53 = .ok (.iload_n 3, 1) := by decide +kernel
theorem own_d10_54 : decode prog_66_method_3_code 54 = .ok (.iaload, 1) := by decide +kernel
theorem own_d10_55 : decode prog_66_method_3_code 55 = .ok (.iconst 1, 1) := by decide +kernel
theorem own_d10_56 : decode prog_66_method_3_code 56 = .ok (.isub, 1) := by decide +kernel
theorem own_d10_57 : decode prog_66_method_3_code 57 = .ok (.istore 4, 2) := by decide +kernel
theorem own_d10_59 : decode prog_66_method_3_code 59 = .ok (.aload_n 0, 1) := by decide +kernel
theorem own_d10_60 : decode prog_66_method_3_code 60 = .ok (.getfield 7, 3) := by decide +kernel
theorem own_d10_63 : decode prog_66_method_3_code 63 = .ok (.iload 4, 2) := by decide +kernel
theorem own_d10_65 : decode prog_66_method_3_code 65 = .ok (.iaload, 1) := by decide +kernel
theorem own_d10_66 : decode prog_66_method_3_code 66 = .ok (.iload_n 1, 1) := by decide +kernel
theorem own_d10_67 : decode prog_66_method_3_code 67 = .ok (.if_icmp .ne 15, 3) := by decide +kernel
theorem own_d10_70 : decode prog_66_method_3_code 70 = .ok (.aload_n 0, 1) := by decide +kernel
theorem own_d10_71 : decode prog_66_method_3_code 71 = .ok (.getfield 13, 3) := by decide +kernel
theorem own_d10_74 : decode prog_66_method_3_code 74 = .ok (.iload 4, 2) := by decide +kernel
theorem own_d10_76 : decode prog_66_method_3_code 76 = .ok (.dup2, 1) := by decide +kernel
theorem own_d10_77 : decode prog_66_method_3_code 77 = .ok (.laload, 1) := by decide +kernel
theorem own_d10_78 : decode prog_66_method_3_code 78 = .ok (.lconst 1, 1) := by decide +kernel
theorem own_d10_79 : decode prog_66_method_3_code 79 = .ok (.ladd, 1) := by decide +kernel
theorem own_d10_80 : decode prog_66_method_3_code 80 = .ok (.lastore, 1) := by decide +kernel
theorem own_d10_81 : decode prog_66_method_3_code 81 = .ok (.return_, 1) := by decide +kernel
theorem own_d10_82 : decode prog_66_method_3_code 82 = .ok (.iload_n 3, 1) := by decide +kernel
theorem own_d10_83 : decode prog_66_method_3_code 83 = .ok (.iconst 1, 1) := by decide +kernel
theorem own_d10_84 : decode prog_66_method_3_code 84 = .ok (.iadd, 1) := by decide +kernel
theorem own_d10_85 : decode prog_66_method_3_code 85 = .ok (.iload_n 2, 1) := by decide +kernel
theorem own_d10_86 : decode prog_66_method_3_code 86 = .ok (.iand, 1) := by decide +kernel
theorem own_d10_87 : decode prog_66_method_3_code 87 = .ok (.istore_n 3, 1) := by decide +kernel
theorem own_d10_88 : decode prog_66_method_3_code 88 = .ok (.goto (-48), 3) := by decide +kernel
theorem own_d10_91 : decode prog_66_method_3_code 91 = .ok (.aload_n 0, 1) := by decide +kernel
theorem own_d10_92 : decode prog_66_method_3_code 92 = .ok (.getfield 23, 3) := by decide +kernel
theorem own_d10_95 : decode prog_66_method_3_code 95 = .ok (.aload_n 0, 1) := by decide +kernel
theorem own_d10_96 : decode prog_66_method_3_code 96 = .ok (.getfield 7, 3) := by decide +kernel
theorem own_d10_99 : decode prog_66_method_3_code 99 = .ok (.arraylength, 1) := by decide +kernel
theorem own_d10_100 : decode prog_66_method_3_code 100 = .ok (.if_icmp .ne 54, 3) := by decide +kernel
theorem own_d10_154 : decode prog_66_method_3_code 154 = .ok (.aload_n 0, 1) := by decide +kernel
theorem own_d10_155 : decode prog_66_method_3_code 155 = .ok (.getfield 7, 3) := by decide +kernel
theorem own_d10_158 : decode prog_66_method_3_code 158 = .ok (.aload_n 0, 1) := by decide +kernel
theorem own_d10_159 : decode prog_66_method_3_code 159 = .ok (.getfield 23, 3) := by decide +kernel
theorem own_d10_162 : decode prog_66_method_3_code 162 = .ok (.iload_n 1, 1) := by decide +kernel
theorem own_d10_163 : decode prog_66_method_3_code 163 = .ok (.iastore, 1) := by decide +kernel
theorem own_d10_164 : decode prog_66_method_3_code 164 = .ok (.aload_n 0, 1) := by decide +kernel
theorem own_d10_165 : decode prog_66_method_3_code 165 = .ok (.getfield 13, 3) := by decide +kernel
theorem own_d10_168 : decode prog_66_method_3_code 168 = .ok (.aload_n 0, 1) := by decide +kernel
theorem own_d10_169 : decode prog_66_method_3_code 169 = .ok (.getfield 23, 3) := by decide +kernel
theorem own_d10_172 : decode prog_66_method_3_code 172 = .ok (.lconst 1, 1) := by decide +kernel
theorem own_d10_173 : decode prog_66_method_3_code 173 = .ok (.lastore, 1) := by decide +kernel
theorem own_d10_174 : decode prog_66_method_3_code 174 = .ok (.aload_n 0, 1) := by decide +kernel
theorem own_d10_175 : decode prog_66_method_3_code 175 = .ok (.getfield 17, 3) := by decide +kernel
theorem own_d10_178 : decode prog_66_method_3_code 178 = .ok (.aload_n 0, 1) := by decide +kernel
theorem own_d10_179 : decode prog_66_method_3_code 179 = .ok (.getfield 23, 3) := by decide +kernel
theorem own_d10_182 : decode prog_66_method_3_code 182 = .ok (.iload_n 3, 1) := by decide +kernel
theorem own_d10_183 : decode prog_66_method_3_code 183 = .ok (.iastore, 1) := by decide +kernel
theorem own_d10_184 : decode prog_66_method_3_code 184 = .ok (.aload_n 0, 1) := by decide +kernel
theorem own_d10_185 : decode prog_66_method_3_code 185 = .ok (.getfield 20, 3) := by decide +kernel
theorem own_d10_188 : decode prog_66_method_3_code 188 = .ok (.iload_n 3, 1) := by decide +kernel
theorem own_d10_189 : decode prog_66_method_3_code 189 = .ok (.aload_n 0, 1) := by decide +kernel
theorem own_d10_190 : decode prog_66_method_3_code 190 = .ok (.dup, 1) := by decide +kernel
theorem own_d10_191 : decode prog_66_method_3_code 191 = .ok (.getfield 23, 3) := by decide +kernel
theorem own_d10_194 : decode prog_66_method_3_code 194 = .ok (.iconst 1, 1) := by decide +kernel
theorem own_d10_195 : decode prog_66_method_3_code 195 = .ok (.iadd, 1) := by decide +kernel
theorem own_d10_196 : decode prog_66_method_3_code 196 = .ok (.dup_x1, 1) := by decide +kernel
theorem own_d10_197 : decode prog_66_method_3_code 197 = .ok (.putfield 23, 3) := by decide +kernel
theorem own_d10_200 : decode prog_66_method_3_code 200 = .ok (.iastore, 1) := by decide +kernel
theorem own_d10_201 : decode prog_66_method_3_code 201 = .ok (.iconst 2, 1) := by decide +kernel
theorem own_d10_202 : decode prog_66_method_3_code 202 = .ok (.aload_n 0, 1) := by decide +kernel
theorem own_d10_203 : decode prog_66_method_3_code 203 = .ok (.getfield 23, 3) := by decide +kernel
theorem own_d10_206 : decode prog_66_method_3_code 206 = .ok (.imul, 1) := by decide +kernel
theorem own_d10_207 : decode prog_66_method_3_code 207 = .ok (.aload_n 0, 1) := by decide +kernel
theorem own_d10_208 : decode prog_66_method_3_code 208 = .ok (.getfield 20, 3) := by decide +kernel
theorem own_d10_211 : decode prog_66_method_3_code 211 = .ok (.arraylength, 1) := by decide +kernel
theorem own_d10_212 : decode prog_66_method_3_code 212 = .ok (.if_icmp .le 7, 3) := by decide +kernel
theorem own_d10_219 : decode prog_66_method_3_code 219 = .ok (.return_, 1) := by decide +kernel
def own_v10_39 (xa : Int32) : Int32 := ((xa * (-1640531527 : Int32)) &&& (15 : Int32))
def own_v10_57 (xa : Int32) (LS : List Int32) : Int32 := ((LS.getD ((own_v10_39 xa)).toNatClampNeg 0) - (1 : Int32))
def own_v10_80 (xa : Int32) (LC : List Int64) (LS : List Int32) : Int64 := ((LC.getD ((own_v10_57 xa LS)).toNatClampNeg (0 : Int64)) + (1 : Int64))
def own_v10_87 (xa : Int32) : Int32 := (((own_v10_39 xa) + (1 : Int32)) &&& (15 : Int32))
def own_v10_57_2 (xa : Int32) (LS : List Int32) : Int32 := ((LS.getD ((own_v10_87 xa)).toNatClampNeg 0) - (1 : Int32))
def own_v10_80_2 (xa : Int32) (LC : List Int64) (LS : List Int32) : Int64 := ((LC.getD ((own_v10_57_2 xa LS)).toNatClampNeg (0 : Int64)) + (1 : Int64))
def own_v10_87_2 (xa : Int32) : Int32 := (((own_v10_87 xa) + (1 : Int32)) &&& (15 : Int32))
def own_v10_57_3 (xa : Int32) (LS : List Int32) : Int32 := ((LS.getD ((own_v10_87_2 xa)).toNatClampNeg 0) - (1 : Int32))
def own_v10_80_3 (xa : Int32) (LC : List Int64) (LS : List Int32) : Int64 := ((LC.getD ((own_v10_57_3 xa LS)).toNatClampNeg (0 : Int64)) + (1 : Int64))
def own_v10_87_3 (xa : Int32) : Int32 := (((own_v10_87_2 xa) + (1 : Int32)) &&& (15 : Int32))
theorem own_next (y : Int32) (h : 0 ≤ y.toInt ∧ y.toInt < 16) : ((y + (1 : Int32)) &&& (15 : Int32)).toInt = (y.toInt + 1) % 16 := by
  have e1 : (1 : Int32).toInt = 1 := rfl
  rw [own_and15, own_add_ok (by omega) (by omega), e1]
theorem own_ph : ∀ i j k l : Fin 3, i = j ∨ i = k ∨ i = l ∨ j = k ∨ j = l ∨ k = l := by decide
theorem own_dist {LO : List Int32} {i i' k k' : Nat} (p1 : k < 16) (p2 : k' < 16) (ne : k ≠ k') (q1 : LO.getD i 0 = Int32.ofNat k) (q2 : LO.getD i' 0 = Int32.ofNat k') : i ≠ i' := fun z => by
  subst z
  exact ne ((own_natof p1 q1).symm.trans (own_natof p2 q2))
theorem own_four (y0 y1 y2 y3 : Int32) (a0 : y0.toInt = y0.toInt % 16) (e1 : y1.toInt = (y0.toInt + 1) % 16) (e2 : y2.toInt = (y1.toInt + 1) % 16) (e3 : y3.toInt = (y2.toInt + 1) % 16) : (y0.toNatClampNeg < 16 ∧ y1.toNatClampNeg < 16 ∧ y2.toNatClampNeg < 16 ∧ y3.toNatClampNeg < 16) ∧ y0.toNatClampNeg ≠ y1.toNatClampNeg ∧ y0.toNatClampNeg ≠ y2.toNatClampNeg ∧ y0.toNatClampNeg ≠ y3.toNatClampNeg ∧ y1.toNatClampNeg ≠ y2.toNatClampNeg ∧ y1.toNatClampNeg ≠ y3.toNatClampNeg ∧ y2.toNatClampNeg ≠ y3.toNatClampNeg := by
  have n0 := own_nat32 (x := y0) (by omega)
  have n1 := own_nat32 (x := y1) (by omega)
  have n2 := own_nat32 (x := y2) (by omega)
  have n3 := own_nat32 (x := y3) (by omega)
  generalize y0.toInt = z0 at *
  generalize y1.toInt = z1 at *
  generalize y2.toInt = z2 at *
  generalize y3.toInt = z3 at *
  refine ⟨⟨by omega, by omega, by omega, by omega⟩, by omega, by omega, by omega, by omega, by omega, by omega⟩
theorem own_e0 (xa : Int32) : 0 ≤ (own_v10_39 xa).toInt ∧ (own_v10_39 xa).toInt < 16 := by
  unfold own_v10_39
  generalize xa * (-1640531527 : Int32) = y
  have := own_and15 y
  omega
theorem own_e1 (xa : Int32) : (own_v10_87 xa).toInt = ((own_v10_39 xa).toInt + 1) % 16 := by
  have h := own_e0 xa
  unfold own_v10_87
  generalize own_v10_39 xa = y at *
  exact own_next y h
theorem own_e2 (xa : Int32) : (own_v10_87_2 xa).toInt = ((own_v10_87 xa).toInt + 1) % 16 := by
  have h := own_e1 xa
  unfold own_v10_87_2
  generalize own_v10_87 xa = y at *
  exact own_next y (by omega)
theorem own_e3 (xa : Int32) : (own_v10_87_3 xa).toInt = ((own_v10_87_2 xa).toInt + 1) % 16 := by
  have h := own_e2 xa
  unfold own_v10_87_3
  generalize own_v10_87_2 xa = y at *
  exact own_next y (by omega)
theorem own_pig0 {b : Nat} {nd y0 y1 y2 y3 : Int32} {LO LS : List Int32} (hv : own_inv b nd LO LS) (hb : b ≤ 3) (l0 : y0.toNatClampNeg < 16) (l1 : y1.toNatClampNeg < 16) (l2 : y2.toNatClampNeg < 16) (l3 : y3.toNatClampNeg < 16) (n01 : y0.toNatClampNeg ≠ y1.toNatClampNeg) (n02 : y0.toNatClampNeg ≠ y2.toNatClampNeg) (n03 : y0.toNatClampNeg ≠ y3.toNatClampNeg) (n12 : y1.toNatClampNeg ≠ y2.toNatClampNeg) (n13 : y1.toNatClampNeg ≠ y3.toNatClampNeg) (n23 : y2.toNatClampNeg ≠ y3.toNatClampNeg)
    (h1 : ¬ (LS.getD y0.toNatClampNeg 0 = (0 : Int32))) (h2 : ¬ (LS.getD y1.toNatClampNeg 0 = (0 : Int32))) (h3 : ¬ (LS.getD y2.toNatClampNeg 0 = (0 : Int32))) : LS.getD y3.toNatClampNeg 0 = (0 : Int32) := by
  obtain ⟨d, g1, g2, g3, g4⟩ := own_open hv hb
  apply Classical.byContradiction; intro h4
  obtain ⟨i0, a0, b0, -⟩ := g4 _ l0 h1
  obtain ⟨i1, a1, b1, -⟩ := g4 _ l1 h2
  obtain ⟨i2, a2, b2, -⟩ := g4 _ l2 h3
  obtain ⟨i3, a3, b3, -⟩ := g4 _ l3 h4
  have hd : d ≤ 3 := Nat.le_trans g2 hb
  rcases own_ph ⟨i0, Nat.lt_of_lt_of_le a0 hd⟩ ⟨i1, Nat.lt_of_lt_of_le a1 hd⟩ ⟨i2, Nat.lt_of_lt_of_le a2 hd⟩ ⟨i3, Nat.lt_of_lt_of_le a3 hd⟩ with q | q | q | q | q | q
  · exact own_dist l0 l1 n01 b0 b1 (Fin.mk.inj q)
  · exact own_dist l0 l2 n02 b0 b2 (Fin.mk.inj q)
  · exact own_dist l0 l3 n03 b0 b3 (Fin.mk.inj q)
  · exact own_dist l1 l2 n12 b1 b2 (Fin.mk.inj q)
  · exact own_dist l1 l3 n13 b1 b3 (Fin.mk.inj q)
  · exact own_dist l2 l3 n23 b2 b3 (Fin.mk.inj q)
theorem own_pig (xa : Int32) {b : Nat} {nd : Int32} {LO LS : List Int32} (hv : own_inv b nd LO LS) (hb : b ≤ 3) (h1 : ¬ (LS.getD (own_v10_39 xa).toNatClampNeg 0 = (0 : Int32))) (h2 : ¬ (LS.getD (own_v10_87 xa).toNatClampNeg 0 = (0 : Int32))) (h3 : ¬ (LS.getD (own_v10_87_2 xa).toNatClampNeg 0 = (0 : Int32))) : LS.getD (own_v10_87_3 xa).toNatClampNeg 0 = (0 : Int32) := by
  have e0 := own_e0 xa
  have e1 := own_e1 xa
  have e2 := own_e2 xa
  have e3 := own_e3 xa
  revert h1 h2 h3 e0 e1 e2 e3
  generalize own_v10_39 xa = y0
  generalize own_v10_87 xa = y1
  generalize own_v10_87_2 xa = y2
  generalize own_v10_87_3 xa = y3
  intro h1 h2 h3 e0 e1 e2 e3
  obtain ⟨⟨l0, l1, l2, l3⟩, n01, n02, n03, n12, n13, n23⟩ := own_four y0 y1 y2 y3 (by omega) e1 e2 e3
  exact own_pig0 hv hb l0 l1 l2 l3 n01 n02 n03 n12 n13 n23 h1 h2 h3
theorem own_inv_mono {b : Nat} {nd : Int32} {LO LS : List Int32} (hv : own_inv b nd LO LS) : own_inv (b + 1) nd LO LS := by
  obtain ⟨d, h1, h2, r⟩ := hv
  exact ⟨d, h1, by omega, r⟩
theorem own_inv_ins {Z : State} {h h' : Heap} {oo os : Addr} {b : Nat} {nd j : Int32} {LO LS : List Int32} (hv : own_inv b nd LO LS) (hb : b ≤ 3) (hz : LS.getD j.toNatClampNeg 0 = (0 : Int32)) (hj : ¬ j < 0 ∧ j < (16 : Int32)) (A : own_AI Z h oo .int (4 : Int32) LO) (B : own_AI Z h' os .int (16 : Int32) LS) : own_inv (b + 1) (nd + (1 : Int32)) (LO.set nd.toNatClampNeg j) (LS.set j.toNatClampNeg (nd + (1 : Int32))) := by
  obtain ⟨d, h1, h2, h3, h4⟩ := hv
  have ed : nd.toNatClampNeg = d := by rw [h1]; exact own_at_ofNat (by omega)
  have es : nd + (1 : Int32) = Int32.ofNat (d + 1) := by rw [h1]; exact own_succ d
  have lO : LO.length = 4 := A.1
  have lS : LS.length = 16 := B.1
  have hj2 := hj
  rw [own_lt32, own_lt32, show (0 : Int32).toInt = 0 from rfl, show (16 : Int32).toInt = 16 from rfl] at hj2
  have nj := own_nat32 (x := j) (by omega)
  have ej : j = Int32.ofNat j.toNatClampNeg := by rw [own_eq32, own_ofNat_toInt (by omega)]; omega
  rw [ed, es]
  refine ⟨d + 1, rfl, by omega, fun i hi => ?_, fun k hk hne => ?_⟩
  · rw [own_getD_set]
    by_cases q : d = i
    · rw [if_pos ⟨q, by omega⟩]; exact hj
    · rw [if_neg (fun z => q z.1)]; exact h3 i (by omega)
  · rw [own_getD_set] at hne ⊢
    by_cases q : j.toNatClampNeg = k
    · rw [if_pos ⟨q, by omega⟩] at hne ⊢
      refine ⟨d, by omega, ?_, rfl⟩
      rw [own_getD_set, if_pos ⟨rfl, by omega⟩, ← q]; exact ej
    · rw [if_neg (fun z => q z.1)] at hne ⊢
      obtain ⟨i, hi, e1, e2⟩ := h4 k hk hne
      refine ⟨i, by omega, ?_, e2⟩
      rw [own_getD_set, if_neg (by omega)]; exact e1
theorem own_spec_neg {xa nd : Int32} {tt ig : Int64} {LS LE : List Int32} {LC : List Int64} (h : xa < (0 : Int32)) : own_spec xa nd tt ig LS nd tt (ig + (1 : Int64)) LE LC := ⟨fun _ => ⟨rfl, rfl, rfl⟩, fun q => absurd h q⟩
theorem own_spec_ins {Z : State} {h h' : Heap} {oe oc : Addr} {xa nd : Int32} {tt ig : Int64} {LS LE : List Int32} {LC : List Int64} (hn : ¬ (xa < (0 : Int32))) (A : own_AI Z h oe .int (4 : Int32) LE) (B : own_AJ Z h' oc (4 : Int32) LC) : own_spec xa nd tt ig LS (nd + (1 : Int32)) (tt + (1 : Int64)) ig (LE.set nd.toNatClampNeg xa) (LC.set nd.toNatClampNeg (1 : Int64)) := by
  refine ⟨fun q => absurd q hn, fun _ => ⟨rfl, rfl, fun z _ => ?_⟩⟩
  subst z
  have lE : LE.length = 4 := A.1
  have lC : LC.length = 4 := B.1
  refine ⟨rfl, ?_, ?_⟩
  · show (LE.set 0 xa).getD 0 0 = xa
    match LE, lE with
    | _ :: _, _ => rfl
  · show (LC.set 0 (1 : Int64)).getD 0 0 = 1
    match LC, lC with
    | _ :: _, _ => rfl
theorem own_spec_far {xa nd nd' j : Int32} {tt ig : Int64} {LS LE : List Int32} {LC : List Int64} (hn : ¬ (xa < (0 : Int32))) (h : ¬ (LS.getD j.toNatClampNeg 0 = (0 : Int32))) (hj : ¬ j < 0 ∧ j < (16 : Int32)) : own_spec xa nd tt ig LS nd' (tt + (1 : Int64)) ig LE LC := by
  rw [own_lt32, own_lt32, show (0 : Int32).toInt = 0 from rfl, show (16 : Int32).toInt = 16 from rfl] at hj
  have nj := own_nat32 (x := j) (by omega)
  exact ⟨fun q => absurd q hn, fun _ => ⟨rfl, rfl, fun _ z => absurd (z _ (by omega)) h⟩⟩

theorem own_ef10 (m : MethodId) (oa : Addr) (xa : Int32) : entryFrame m #[(.ref oa), (.int xa)] 5 = mkF m 0 #[.val (.ref oa), .val (.int xa), .unset, .unset, .unset] [] := by first | (simp [entryFrame, mkF, argsToLocals, Value.category]; done) | rfl
abbrev own_room10 : Room := { frames := 0, cells := 0, slots := 0, locals := 0 }
def own_Q10 (Z : State) (oa : Addr) (xa : Int32) (oe : Addr) (oc : Addr) (oo : Addr) (os : Addr) (nd : Int32) (tt : Int64) (ig : Int64) (LE : List Int32) (LC : List Int64) (LO : List Int32) (LS : List Int32) (bb : Nat) (h0 : Heap) (n0 : Nat) (v : Option Value) (h : Heap) (L : List Loc) : Prop := ∃ nd_ : Int32, ∃ tt_ : Int64, ∃ ig_ : Int64, ∃ LE_ : List Int32, ∃ LC_ : List Int64, ∃ LO_ : List Int32, ∃ LS_ : List Int32, v = none ∧ Fr n0 L ∧ Keep h0 h [oa, oe, oc, oo, os] ∧ Fld Z h oa "com/example/monitorgen/monitorgen/trace/Instant" "_events" "[I" (.ref oe) ∧ Fld Z h oa "com/example/monitorgen/monitorgen/trace/Instant" "_counts" "[J" (.ref oc) ∧ Fld Z h oa "com/example/monitorgen/monitorgen/trace/Instant" "_slotOf" "[I" (.ref oo) ∧ Fld Z h oa "com/example/monitorgen/monitorgen/trace/Instant" "_slots" "[I" (.ref os) ∧ Fld Z h oa "com/example/monitorgen/monitorgen/trace/Instant" "_distinct" "I" (.int nd_) ∧ Fld Z h oa "com/example/monitorgen/monitorgen/trace/Instant" "_total" "J" (.long tt_) ∧ Fld Z h oa "com/example/monitorgen/monitorgen/trace/Instant" "_ignored" "J" (.long ig_) ∧ own_AI Z h oe .int (4 : Int32) LE_ ∧ own_AJ Z h oc (4 : Int32) LC_ ∧ own_AI Z h oo .int (4 : Int32) LO_ ∧ own_AI Z h os .int (16 : Int32) LS_ ∧ (own_inv (bb + 1) nd_ LO_ LS_) ∧ (own_spec xa nd tt ig LS nd_ tt_ ig_ LE_ LC_)
set_option maxRecDepth 65536 in
set_option maxHeartbeats 40000000 in
theorem own_rm10 (l : Launch) (Z : State) (a0 : Array Value) (hw : ∀ d ∈ tables_1, d.before a0 Z = true) (ws : List Jvm.Cond) (oa : Addr) (xa : Int32) (oe : Addr) (oc : Addr) (oo : Addr) (os : Addr) (nd : Int32) (tt : Int64) (ig : Int64) (LE : List Int32) (LC : List Int64) (LO : List Int32) (LS : List Int32) (bb : Nat) (h0 : Heap) (n0 : Nat) (Z0 : n0 ≤ h0.size) (E_oa : Exa Z h0 oa "com/example/monitorgen/monitorgen/trace/Instant") (F__events_oa : Fld Z h0 oa "com/example/monitorgen/monitorgen/trace/Instant" "_events" "[I" (.ref oe)) (F__counts_oa : Fld Z h0 oa "com/example/monitorgen/monitorgen/trace/Instant" "_counts" "[J" (.ref oc)) (F__slotOf_oa : Fld Z h0 oa "com/example/monitorgen/monitorgen/trace/Instant" "_slotOf" "[I" (.ref oo)) (F__slots_oa : Fld Z h0 oa "com/example/monitorgen/monitorgen/trace/Instant" "_slots" "[I" (.ref os)) (F__distinct_oa : Fld Z h0 oa "com/example/monitorgen/monitorgen/trace/Instant" "_distinct" "I" (.int nd)) (F__total_oa : Fld Z h0 oa "com/example/monitorgen/monitorgen/trace/Instant" "_total" "J" (.long tt)) (F__ignored_oa : Fld Z h0 oa "com/example/monitorgen/monitorgen/trace/Instant" "_ignored" "J" (.long ig)) (A_oe : own_AI Z h0 oe .int (4 : Int32) LE) (A_oc : own_AJ Z h0 oc (4 : Int32) LC) (A_oo : own_AI Z h0 oo .int (4 : Int32) LO) (A_os : own_AI Z h0 os .int (16 : Int32) LS) (g_oa : n0 ≤ oa) (g_oe : n0 ≤ oe) (g_oc : n0 ≤ oc) (g_oo : n0 ≤ oo) (g_os : n0 ≤ os) (ne_oa_oe : oa ≠ oe) (ne_oa_oc : oa ≠ oc) (ne_oa_oo : oa ≠ oo) (ne_oa_os : oa ≠ os) (ne_oe_oc : oe ≠ oc) (ne_oe_oo : oe ≠ oo) (ne_oe_os : oe ≠ os) (ne_oc_oo : oc ≠ oo) (ne_oc_os : oc ≠ os) (ne_oo_os : oo ≠ os) (hv : own_inv bb nd LO LS) (hb_ : bb ≤ 3) :
    MetFree l (⟨"com/example/monitorgen/monitorgen/trace/Instant", "add", "(I)V"⟩ : MethodName) (head1 (Jvm.Cond.code (⟨"com/example/monitorgen/monitorgen/trace/Instant", "add", "(I)V"⟩ : MethodName) prog_66_method_3_code 5 none :: ws) own_room10) (fun a U => a = #[(.ref oa), (.int xa)] ∧ Z.Warmed39 U.vm ∧ U.heap = h0) (fun _ _ _ _ _ => True) (fun _ U o U' => ∃ v L, o = .returned v ∧ own_Q10 Z oa xa oe oc oo os nd tt ig LE LC LO LS bb h0 n0 v U'.heap L ∧ FrameEnd U o U' L own_room10.cells own_room10.slots) := by
  refine MetFree.of_bodySF (plainFor_of_name own_pn0) hisR ?_
  intro p e s m args below meth c s₁ Bd hml0 hP hK
  obtain ⟨rfl, hZ, hh⟩ := hP
  have hx := Bd.exec
  have hby := Bd.bytes
  have hml : c.maxLocals = 5 := hml0
  have hown : s.vm.findClass "com/example/monitorgen/monitorgen/trace/Instant" = some m.cls := findClass_of_methodNamed Bd.named
  have hnm := (name_of_methodNamed Bd.named Bd.method).1
  have X0 : Stand p l e own_room10 s m #[(.ref oa), (.int xa)] below meth c s₁ [] 0 0 := Stand.of_body Bd
  have e0 : s₁.heap = h0 := by rw [← hh, Bd.state]; rfl
  have N0 := Fr.nil n0
  refine own_out (Q := fun o U' => ∃ v L, o = .returned v ∧ own_Q10 Z oa xa oe oc oo os nd tt ig LE LC LO LS bb h0 n0 v U'.heap L ∧ FrameEnd s o U' L own_room10.cells own_room10.slots) ?_
  refine own_go (T' := s₁) (f' := (mkF m 0 #[.val (.ref oa), .val (.int xa), .unset, .unset, .unset] [])) ?_ (fun _ k => castTop (own_ef10 m oa xa) k)
  refine own_go (T' := s₁) (f' := (mkF m 1 #[.val (.ref oa), .val (.int xa), .unset, .unset, .unset] [(.int xa)])) ?_ (fun _ k => XS.iloadN X0.here hx rfl (hb hby own_d10_0) rfl  k)
  by_cases hc1_1 : xa < (0 : Int32)
  · refine own_go (T' := s₁) (f' := (mkF m 4 #[.val (.ref oa), .val (.int xa), .unset, .unset, .unset] [])) ?_ (fun _ k => XS.ifNo X0.here hx rfl (hb hby own_d10_1) rfl ((if0 _ _).trans (tlt hc1_1).2.1) k)
    refine own_go (T' := s₁) (f' := (mkF m 5 #[.val (.ref oa), .val (.int xa), .unset, .unset, .unset] [(.ref oa)])) ?_ (fun _ k => XS.aloadN X0.here hx rfl (hb hby own_d10_4) rfl rfl k)
    refine own_go (T' := s₁) (f' := (mkF m 6 #[.val (.ref oa), .val (.int xa), .unset, .unset, .unset] [(.ref oa), (.ref oa)])) ?_ (fun _ k => XS.dup X0.here hx rfl (hb hby own_d10_5) rfl rfl k)
    obtain ⟨T2, X2, e2, st2⟩ := getF X0 hx hZ hown (host := "") (Or.inl (hw _ (List.mem_of_getElem? (i := 28) rfl))) Via.refl e0 F__ignored_oa (g := (mkF m 6 #[.val (.ref oa), .val (.int xa), .unset, .unset, .unset] [(.ref oa), (.ref oa)])) rfl rfl (hb hby own_d10_6)
    refine own_go (T' := T2) (f' := (mkF m 9 #[.val (.ref oa), .val (.int xa), .unset, .unset, .unset] [(.long ig), (.ref oa)])) ?_ (st2)
    refine own_go (T' := T2) (f' := (mkF m 10 #[.val (.ref oa), .val (.int xa), .unset, .unset, .unset] [(.long (1 : Int64)), (.long ig), (.ref oa)])) ?_ (fun _ k => XS.lconst X2.here hx rfl (hb hby own_d10_9) k)
    refine own_go (T' := T2) (f' := (mkF m 11 #[.val (.ref oa), .val (.int xa), .unset, .unset, .unset] [(.long (ig + (1 : Int64))), (.ref oa)])) ?_ (fun _ k => XS.ladd X2.here hx rfl (hb hby own_d10_10) rfl k)
    obtain ⟨T3, h3, X3, e3, W3, st3⟩ := putF X2 hx hZ hown (host := "") (Or.inl (hw _ (List.mem_of_getElem? (i := 28) rfl))) Via.refl e2 F__ignored_oa E_oa (Or.inl (hw _ (List.mem_of_getElem? (i := 29) rfl))) (hw _ (List.mem_of_getElem? (i := 1) rfl)) (ty := .long) (by decide) rfl rfl (g := (mkF m 11 #[.val (.ref oa), .val (.int xa), .unset, .unset, .unset] [(.long (ig + (1 : Int64))), (.ref oa)])) rfl rfl (hb hby own_d10_11)
    have fa4 := E_oa.wr W3
    have fa5 := F__events_oa.other W3 (Or.inr (slot_ne (Or.inl (hw _ (List.mem_of_getElem? (i := 11) rfl))) (Or.inl (hw _ (List.mem_of_getElem? (i := 29) rfl))) (by decide) (t := (.array .int)) (t' := .long) (by decide) (by decide)))
    have fa6 := F__counts_oa.other W3 (Or.inr (slot_ne (Or.inl (hw _ (List.mem_of_getElem? (i := 14) rfl))) (Or.inl (hw _ (List.mem_of_getElem? (i := 29) rfl))) (by decide) (t := (.array .long)) (t' := .long) (by decide) (by decide)))
    have fa7 := F__slotOf_oa.other W3 (Or.inr (slot_ne (Or.inl (hw _ (List.mem_of_getElem? (i := 16) rfl))) (Or.inl (hw _ (List.mem_of_getElem? (i := 29) rfl))) (by decide) (t := (.array .int)) (t' := .long) (by decide) (by decide)))
    have fa8 := F__slots_oa.other W3 (Or.inr (slot_ne (Or.inl (hw _ (List.mem_of_getElem? (i := 18) rfl))) (Or.inl (hw _ (List.mem_of_getElem? (i := 29) rfl))) (by decide) (t := (.array .int)) (t' := .long) (by decide) (by decide)))
    have fa9 := F__distinct_oa.other W3 (Or.inr (slot_ne (Or.inl (hw _ (List.mem_of_getElem? (i := 25) rfl))) (Or.inl (hw _ (List.mem_of_getElem? (i := 29) rfl))) (by decide) (t := .int) (t' := .long) (by decide) (by decide)))
    have fa10 := F__total_oa.other W3 (Or.inr (slot_ne (Or.inl (hw _ (List.mem_of_getElem? (i := 27) rfl))) (Or.inl (hw _ (List.mem_of_getElem? (i := 29) rfl))) (by decide) (t := .long) (t' := .long) (by decide) (by decide)))
    have fa12 := A_oe.other W3 (Ne.symm ne_oa_oe)
    have fa13 := A_oc.other W3 (Ne.symm ne_oa_oc)
    have fa14 := A_oo.other W3 (Ne.symm ne_oa_oo)
    have fa15 := A_os.other W3 (Ne.symm ne_oa_os)
    have Fw3 := F__ignored_oa.same W3
    have N3 := Fr.snoc X3 N0 g_oa
    have KK3 : Keep h0 h3 [oa, oe, oc, oo, os] := (Keep.refl h0 [oa, oe, oc, oo, os]).wr W3 (Or.inl (List.mem_of_getElem? (i := 0) rfl))
    have ZZ3 : n0 ≤ h3.size := Nat.le_trans Z0 (Keep.of_wr W3).1
    refine own_go (T' := T3) (f' := (mkF m 14 #[.val (.ref oa), .val (.int xa), .unset, .unset, .unset] [])) ?_ (st3)
    obtain ⟨fs16, hr16, hrun16, hended16, hW16, hsame16⟩ := X3.leave (v := none) (fun _ => rfl)
    refine ⟨_, ⟨_, hrun16, hended16, _, _, rfl, ?_, ⟨_, rfl⟩, hW16, hsame16.mono (by decide) (by decide)⟩, fun _ k => (X3.returnOut hx Bd.returns (hb hby own_d10_14) hr16).trans k⟩
    show own_Q10 Z oa xa oe oc oo os nd tt ig LE LC LO LS bb h0 n0 _ T3.heap _
    rw [e3]
    exact ⟨nd, tt, (ig + (1 : Int64)), LE, LC, LO, LS, rfl, N3, KK3, fa5, fa6, fa7, fa8, fa9, fa10, Fw3, fa12, fa13, fa14, fa15, (own_inv_mono hv), (own_spec_neg hc1_1)⟩
  · refine own_go (T' := s₁) (f' := (mkF m 15 #[.val (.ref oa), .val (.int xa), .unset, .unset, .unset] [])) ?_ (fun _ k => XS.ifYes X0.here hx rfl (pc0 := 1) (pc' := 15) rfl (hb hby own_d10_1) rfl ((if0 _ _).trans (flt hc1_1).2.1) (by decide) (by decide) k)
    refine own_go (T' := s₁) (f' := (mkF m 16 #[.val (.ref oa), .val (.int xa), .unset, .unset, .unset] [(.ref oa)])) ?_ (fun _ k => XS.aloadN X0.here hx rfl (hb hby own_d10_15) rfl rfl k)
    refine own_go (T' := s₁) (f' := (mkF m 17 #[.val (.ref oa), .val (.int xa), .unset, .unset, .unset] [(.ref oa), (.ref oa)])) ?_ (fun _ k => XS.dup X0.here hx rfl (hb hby own_d10_16) rfl rfl k)
    obtain ⟨T17, X17, e17, st17⟩ := getF X0 hx hZ hown (host := "") (Or.inl (hw _ (List.mem_of_getElem? (i := 26) rfl))) Via.refl e0 F__total_oa (g := (mkF m 17 #[.val (.ref oa), .val (.int xa), .unset, .unset, .unset] [(.ref oa), (.ref oa)])) rfl rfl (hb hby own_d10_17)
    refine own_go (T' := T17) (f' := (mkF m 20 #[.val (.ref oa), .val (.int xa), .unset, .unset, .unset] [(.long tt), (.ref oa)])) ?_ (st17)
    refine own_go (T' := T17) (f' := (mkF m 21 #[.val (.ref oa), .val (.int xa), .unset, .unset, .unset] [(.long (1 : Int64)), (.long tt), (.ref oa)])) ?_ (fun _ k => XS.lconst X17.here hx rfl (hb hby own_d10_20) k)
    refine own_go (T' := T17) (f' := (mkF m 22 #[.val (.ref oa), .val (.int xa), .unset, .unset, .unset] [(.long (tt + (1 : Int64))), (.ref oa)])) ?_ (fun _ k => XS.ladd X17.here hx rfl (hb hby own_d10_21) rfl k)
    obtain ⟨T18, h18, X18, e18, W18, st18⟩ := putF X17 hx hZ hown (host := "") (Or.inl (hw _ (List.mem_of_getElem? (i := 26) rfl))) Via.refl e17 F__total_oa E_oa (Or.inl (hw _ (List.mem_of_getElem? (i := 27) rfl))) (hw _ (List.mem_of_getElem? (i := 1) rfl)) (ty := .long) (by decide) rfl rfl (g := (mkF m 22 #[.val (.ref oa), .val (.int xa), .unset, .unset, .unset] [(.long (tt + (1 : Int64))), (.ref oa)])) rfl rfl (hb hby own_d10_22)
    have fa19 := E_oa.wr W18
    have fa20 := F__events_oa.other W18 (Or.inr (slot_ne (Or.inl (hw _ (List.mem_of_getElem? (i := 11) rfl))) (Or.inl (hw _ (List.mem_of_getElem? (i := 27) rfl))) (by decide) (t := (.array .int)) (t' := .long) (by decide) (by decide)))
    have fa21 := F__counts_oa.other W18 (Or.inr (slot_ne (Or.inl (hw _ (List.mem_of_getElem? (i := 14) rfl))) (Or.inl (hw _ (List.mem_of_getElem? (i := 27) rfl))) (by decide) (t := (.array .long)) (t' := .long) (by decide) (by decide)))
    have fa22 := F__slotOf_oa.other W18 (Or.inr (slot_ne (Or.inl (hw _ (List.mem_of_getElem? (i := 16) rfl))) (Or.inl (hw _ (List.mem_of_getElem? (i := 27) rfl))) (by decide) (t := (.array .int)) (t' := .long) (by decide) (by decide)))
    have fa23 := F__slots_oa.other W18 (Or.inr (slot_ne (Or.inl (hw _ (List.mem_of_getElem? (i := 18) rfl))) (Or.inl (hw _ (List.mem_of_getElem? (i := 27) rfl))) (by decide) (t := (.array .int)) (t' := .long) (by decide) (by decide)))
    have fa24 := F__distinct_oa.other W18 (Or.inr (slot_ne (Or.inl (hw _ (List.mem_of_getElem? (i := 25) rfl))) (Or.inl (hw _ (List.mem_of_getElem? (i := 27) rfl))) (by decide) (t := .int) (t' := .long) (by decide) (by decide)))
    have fa26 := F__ignored_oa.other W18 (Or.inr (slot_ne (Or.inl (hw _ (List.mem_of_getElem? (i := 29) rfl))) (Or.inl (hw _ (List.mem_of_getElem? (i := 27) rfl))) (by decide) (t := .long) (t' := .long) (by decide) (by decide)))
    have fa27 := A_oe.other W18 (Ne.symm ne_oa_oe)
    have fa28 := A_oc.other W18 (Ne.symm ne_oa_oc)
    have fa29 := A_oo.other W18 (Ne.symm ne_oa_oo)
    have fa30 := A_os.other W18 (Ne.symm ne_oa_os)
    have Fw18 := F__total_oa.same W18
    have N18 := Fr.snoc X18 N0 g_oa
    have KK18 : Keep h0 h18 [oa, oe, oc, oo, os] := (Keep.refl h0 [oa, oe, oc, oo, os]).wr W18 (Or.inl (List.mem_of_getElem? (i := 0) rfl))
    have ZZ18 : n0 ≤ h18.size := Nat.le_trans Z0 (Keep.of_wr W18).1
    refine own_go (T' := T18) (f' := (mkF m 25 #[.val (.ref oa), .val (.int xa), .unset, .unset, .unset] [])) ?_ (st18)
    refine own_go (T' := T18) (f' := (mkF m 26 #[.val (.ref oa), .val (.int xa), .unset, .unset, .unset] [(.ref oa)])) ?_ (fun _ k => XS.aloadN X18.here hx rfl (hb hby own_d10_25) rfl rfl k)
    obtain ⟨T31, X31, e31, st31⟩ := getF X18 hx hZ hown (host := "") (Or.inl (hw _ (List.mem_of_getElem? (i := 17) rfl))) Via.refl e18 fa23 (g := (mkF m 26 #[.val (.ref oa), .val (.int xa), .unset, .unset, .unset] [(.ref oa)])) rfl rfl (hb hby own_d10_26)
    refine own_go (T' := T31) (f' := (mkF m 29 #[.val (.ref oa), .val (.int xa), .unset, .unset, .unset] [(.ref os)])) ?_ (st31)
    refine own_go (T' := T31) (f' := (mkF m 30 #[.val (.ref oa), .val (.int xa), .unset, .unset, .unset] [(.int (16 : Int32))])) ?_ (own_len X31 hx hZ e31 fa30 (g := (mkF m 29 #[.val (.ref oa), .val (.int xa), .unset, .unset, .unset] [(.ref os)])) rfl rfl (hb hby own_d10_29))
    refine own_go (T' := T31) (f' := (mkF m 31 #[.val (.ref oa), .val (.int xa), .unset, .unset, .unset] [(.int (1 : Int32)), (.int (16 : Int32))])) ?_ (fun _ k => XS.iconst X31.here hx rfl (hb hby own_d10_30) k)
    refine own_go (T' := T31) (f' := (mkF m 32 #[.val (.ref oa), .val (.int xa), .unset, .unset, .unset] [(.int (15 : Int32))])) ?_ (fun _ k => XS.isub X31.here hx rfl (hb hby own_d10_31) rfl k)
    refine own_go (T' := T31) (f' := (mkF m 33 #[.val (.ref oa), .val (.int xa), .val (.int (15 : Int32)), .unset, .unset] [])) ?_ (fun _ k => XS.istoreN X31.here hx rfl (hb hby own_d10_32) rfl (l' := #[.val (.ref oa), .val (.int xa), .val (.int (15 : Int32)), .unset, .unset]) rfl k)
    refine own_go (T' := T31) (f' := (mkF m 34 #[.val (.ref oa), .val (.int xa), .val (.int (15 : Int32)), .unset, .unset] [(.int xa)])) ?_ (fun _ k => XS.iloadN X31.here hx rfl (hb hby own_d10_33) rfl  k)
    refine own_go (T' := T31) (f' := (mkF m 36 #[.val (.ref oa), .val (.int xa), .val (.int (15 : Int32)), .unset, .unset] [(.int (-1640531527 : Int32)), (.int xa)])) ?_ (X31.ldcInt hx hown (mvT hZ (hw _ (List.mem_of_getElem? (i := 44) rfl))) (g := (mkF m 34 #[.val (.ref oa), .val (.int xa), .val (.int (15 : Int32)), .unset, .unset] [(.int xa)])) rfl (hb hby own_d10_34))
    refine own_go (T' := T31) (f' := (mkF m 37 #[.val (.ref oa), .val (.int xa), .val (.int (15 : Int32)), .unset, .unset] [(.int (xa * (-1640531527 : Int32)))])) ?_ (fun _ k => XS.imul X31.here hx rfl (hb hby own_d10_36) rfl k)
    refine own_go (T' := T31) (f' := (mkF m 38 #[.val (.ref oa), .val (.int xa), .val (.int (15 : Int32)), .unset, .unset] [(.int (15 : Int32)), (.int (xa * (-1640531527 : Int32)))])) ?_ (fun _ k => XS.iloadN X31.here hx rfl (hb hby own_d10_37) rfl  k)
    refine own_go (T' := T31) (f' := (mkF m 39 #[.val (.ref oa), .val (.int xa), .val (.int (15 : Int32)), .unset, .unset] [(.int ((xa * (-1640531527 : Int32)) &&& (15 : Int32)))])) ?_ (fun _ k => XS.iand X31.here hx rfl (hb hby own_d10_38) rfl k)
    refine own_go (T' := T31) (f' := (mkF m 40 #[.val (.ref oa), .val (.int xa), .val (.int (15 : Int32)), .val (.int (own_v10_39 xa)), .unset] [])) ?_ (fun _ k => XS.istoreN X31.here hx rfl (hb hby own_d10_39) rfl (l' := #[.val (.ref oa), .val (.int xa), .val (.int (15 : Int32)), .val (.int (own_v10_39 xa)), .unset]) rfl k)
    refine own_go (T' := T31) (f' := (mkF m 41 #[.val (.ref oa), .val (.int xa), .val (.int (15 : Int32)), .val (.int (own_v10_39 xa)), .unset] [(.ref oa)])) ?_ (fun _ k => XS.aloadN X31.here hx rfl (hb hby own_d10_40) rfl rfl k)
    obtain ⟨T32, X32, e32, st32⟩ := getF X31 hx hZ hown (host := "") (Or.inl (hw _ (List.mem_of_getElem? (i := 17) rfl))) Via.refl e31 fa23 (g := (mkF m 41 #[.val (.ref oa), .val (.int xa), .val (.int (15 : Int32)), .val (.int (own_v10_39 xa)), .unset] [(.ref oa)])) rfl rfl (hb hby own_d10_41)
    refine own_go (T' := T32) (f' := (mkF m 44 #[.val (.ref oa), .val (.int xa), .val (.int (15 : Int32)), .val (.int (own_v10_39 xa)), .unset] [(.ref os)])) ?_ (st32)
    refine own_go (T' := T32) (f' := (mkF m 45 #[.val (.ref oa), .val (.int xa), .val (.int (15 : Int32)), .val (.int (own_v10_39 xa)), .unset] [(.int (own_v10_39 xa)), (.ref os)])) ?_ (fun _ k => XS.iloadN X32.here hx rfl (hb hby own_d10_44) rfl  k)
    refine own_go (T' := T32) (f' := (mkF m 46 #[.val (.ref oa), .val (.int xa), .val (.int (15 : Int32)), .val (.int (own_v10_39 xa)), .unset] [(.int (LS.getD ((own_v10_39 xa)).toNatClampNeg 0))])) ?_ (own_ldI X32 hx hZ e32 fa30 (j := (own_v10_39 xa)) (own_h15 _) (g := (mkF m 45 #[.val (.ref oa), .val (.int xa), .val (.int (15 : Int32)), .val (.int (own_v10_39 xa)), .unset] [(.int (own_v10_39 xa)), (.ref os)])) rfl rfl (hb hby own_d10_45))
    by_cases hc46_33 : (LS.getD ((own_v10_39 xa)).toNatClampNeg 0) = (0 : Int32)
    · refine own_go (T' := T32) (f' := (mkF m 91 #[.val (.ref oa), .val (.int xa), .val (.int (15 : Int32)), .val (.int (own_v10_39 xa)), .unset] [])) ?_ (fun _ k => XS.ifYes X32.here hx rfl (pc0 := 46) (pc' := 91) rfl (hb hby own_d10_46) rfl ((if0 _ _).trans (teq hc46_33).1) (by decide) (by decide) k)
      refine own_go (T' := T32) (f' := (mkF m 92 #[.val (.ref oa), .val (.int xa), .val (.int (15 : Int32)), .val (.int (own_v10_39 xa)), .unset] [(.ref oa)])) ?_ (fun _ k => XS.aloadN X32.here hx rfl (hb hby own_d10_91) rfl rfl k)
      obtain ⟨T34, X34, e34, st34⟩ := getF X32 hx hZ hown (host := "") (Or.inl (hw _ (List.mem_of_getElem? (i := 24) rfl))) Via.refl e32 fa24 (g := (mkF m 92 #[.val (.ref oa), .val (.int xa), .val (.int (15 : Int32)), .val (.int (own_v10_39 xa)), .unset] [(.ref oa)])) rfl rfl (hb hby own_d10_92)
      refine own_go (T' := T34) (f' := (mkF m 95 #[.val (.ref oa), .val (.int xa), .val (.int (15 : Int32)), .val (.int (own_v10_39 xa)), .unset] [(.int nd)])) ?_ (st34)
      refine own_go (T' := T34) (f' := (mkF m 96 #[.val (.ref oa), .val (.int xa), .val (.int (15 : Int32)), .val (.int (own_v10_39 xa)), .unset] [(.ref oa), (.int nd)])) ?_ (fun _ k => XS.aloadN X34.here hx rfl (hb hby own_d10_95) rfl rfl k)
      obtain ⟨T35, X35, e35, st35⟩ := getF X34 hx hZ hown (host := "") (Or.inl (hw _ (List.mem_of_getElem? (i := 10) rfl))) Via.refl e34 fa20 (g := (mkF m 96 #[.val (.ref oa), .val (.int xa), .val (.int (15 : Int32)), .val (.int (own_v10_39 xa)), .unset] [(.ref oa), (.int nd)])) rfl rfl (hb hby own_d10_96)
      refine own_go (T' := T35) (f' := (mkF m 99 #[.val (.ref oa), .val (.int xa), .val (.int (15 : Int32)), .val (.int (own_v10_39 xa)), .unset] [(.ref oe), (.int nd)])) ?_ (st35)
      refine own_go (T' := T35) (f' := (mkF m 100 #[.val (.ref oa), .val (.int xa), .val (.int (15 : Int32)), .val (.int (own_v10_39 xa)), .unset] [(.int (4 : Int32)), (.int nd)])) ?_ (own_len X35 hx hZ e35 fa27 (g := (mkF m 99 #[.val (.ref oa), .val (.int xa), .val (.int (15 : Int32)), .val (.int (own_v10_39 xa)), .unset] [(.ref oe), (.int nd)])) rfl rfl (hb hby own_d10_99))
      have hk100_36 : ¬ (nd = (4 : Int32)) := (own_nd4 hv hb_)
      refine own_go (T' := T35) (f' := (mkF m 154 #[.val (.ref oa), .val (.int xa), .val (.int (15 : Int32)), .val (.int (own_v10_39 xa)), .unset] [])) ?_ (fun _ k => XS.icmpYes X35.here hx rfl (pc0 := 100) (pc' := 154) rfl (hb hby own_d10_100) rfl (feq hk100_36).2 (by decide) (by decide) k)
      refine own_go (T' := T35) (f' := (mkF m 155 #[.val (.ref oa), .val (.int xa), .val (.int (15 : Int32)), .val (.int (own_v10_39 xa)), .unset] [(.ref oa)])) ?_ (fun _ k => XS.aloadN X35.here hx rfl (hb hby own_d10_154) rfl rfl k)
      obtain ⟨T37, X37, e37, st37⟩ := getF X35 hx hZ hown (host := "") (Or.inl (hw _ (List.mem_of_getElem? (i := 10) rfl))) Via.refl e35 fa20 (g := (mkF m 155 #[.val (.ref oa), .val (.int xa), .val (.int (15 : Int32)), .val (.int (own_v10_39 xa)), .unset] [(.ref oa)])) rfl rfl (hb hby own_d10_155)
      refine own_go (T' := T37) (f' := (mkF m 158 #[.val (.ref oa), .val (.int xa), .val (.int (15 : Int32)), .val (.int (own_v10_39 xa)), .unset] [(.ref oe)])) ?_ (st37)
      refine own_go (T' := T37) (f' := (mkF m 159 #[.val (.ref oa), .val (.int xa), .val (.int (15 : Int32)), .val (.int (own_v10_39 xa)), .unset] [(.ref oa), (.ref oe)])) ?_ (fun _ k => XS.aloadN X37.here hx rfl (hb hby own_d10_158) rfl rfl k)
      obtain ⟨T38, X38, e38, st38⟩ := getF X37 hx hZ hown (host := "") (Or.inl (hw _ (List.mem_of_getElem? (i := 24) rfl))) Via.refl e37 fa24 (g := (mkF m 159 #[.val (.ref oa), .val (.int xa), .val (.int (15 : Int32)), .val (.int (own_v10_39 xa)), .unset] [(.ref oa), (.ref oe)])) rfl rfl (hb hby own_d10_159)
      refine own_go (T' := T38) (f' := (mkF m 162 #[.val (.ref oa), .val (.int xa), .val (.int (15 : Int32)), .val (.int (own_v10_39 xa)), .unset] [(.int nd), (.ref oe)])) ?_ (st38)
      refine own_go (T' := T38) (f' := (mkF m 163 #[.val (.ref oa), .val (.int xa), .val (.int (15 : Int32)), .val (.int (own_v10_39 xa)), .unset] [(.int xa), (.int nd), (.ref oe)])) ?_ (fun _ k => XS.iloadN X38.here hx rfl (hb hby own_d10_162) rfl  k)
      obtain ⟨T39, h39, X39, e39, W39, F39, st39⟩ := own_stI X38 hx hZ e38 fa27 (j := nd) (own_ndi hv hb_) (g := (mkF m 163 #[.val (.ref oa), .val (.int xa), .val (.int (15 : Int32)), .val (.int (own_v10_39 xa)), .unset] [(.int xa), (.int nd), (.ref oe)])) rfl rfl (hb hby own_d10_163)
      have fa40 := fa19.wr W39
      have fa41 := fa20.other W39 (Or.inl ne_oa_oe)
      have fa42 := fa21.other W39 (Or.inl ne_oa_oe)
      have fa43 := fa22.other W39 (Or.inl ne_oa_oe)
      have fa44 := fa23.other W39 (Or.inl ne_oa_oe)
      have fa45 := fa24.other W39 (Or.inl ne_oa_oe)
      have fa46 := fa26.other W39 (Or.inl ne_oa_oe)
      have fa48 := fa28.other W39 (Ne.symm ne_oe_oc)
      have fa49 := fa29.other W39 (Ne.symm ne_oe_oo)
      have fa50 := fa30.other W39 (Ne.symm ne_oe_os)
      have fa51 := Fw18.other W39 (Or.inl ne_oa_oe)
      have Fw39 : own_AI Z h39 oe .int (4 : Int32) (LE.set (nd).toNatClampNeg xa) := F39
      have N39 := Fr.snoc X39 N18 g_oe
      have KK39 : Keep h0 h39 [oa, oe, oc, oo, os] := KK18.wr W39 (Or.inl (List.mem_of_getElem? (i := 1) rfl))
      have ZZ39 : n0 ≤ h39.size := Nat.le_trans ZZ18 (Keep.of_wr W39).1
      refine own_go (T' := T39) (f' := (mkF m 164 #[.val (.ref oa), .val (.int xa), .val (.int (15 : Int32)), .val (.int (own_v10_39 xa)), .unset] [])) ?_ (st39)
      refine own_go (T' := T39) (f' := (mkF m 165 #[.val (.ref oa), .val (.int xa), .val (.int (15 : Int32)), .val (.int (own_v10_39 xa)), .unset] [(.ref oa)])) ?_ (fun _ k => XS.aloadN X39.here hx rfl (hb hby own_d10_164) rfl rfl k)
      obtain ⟨T52, X52, e52, st52⟩ := getF X39 hx hZ hown (host := "") (Or.inl (hw _ (List.mem_of_getElem? (i := 13) rfl))) Via.refl e39 fa42 (g := (mkF m 165 #[.val (.ref oa), .val (.int xa), .val (.int (15 : Int32)), .val (.int (own_v10_39 xa)), .unset] [(.ref oa)])) rfl rfl (hb hby own_d10_165)
      refine own_go (T' := T52) (f' := (mkF m 168 #[.val (.ref oa), .val (.int xa), .val (.int (15 : Int32)), .val (.int (own_v10_39 xa)), .unset] [(.ref oc)])) ?_ (st52)
      refine own_go (T' := T52) (f' := (mkF m 169 #[.val (.ref oa), .val (.int xa), .val (.int (15 : Int32)), .val (.int (own_v10_39 xa)), .unset] [(.ref oa), (.ref oc)])) ?_ (fun _ k => XS.aloadN X52.here hx rfl (hb hby own_d10_168) rfl rfl k)
      obtain ⟨T53, X53, e53, st53⟩ := getF X52 hx hZ hown (host := "") (Or.inl (hw _ (List.mem_of_getElem? (i := 24) rfl))) Via.refl e52 fa45 (g := (mkF m 169 #[.val (.ref oa), .val (.int xa), .val (.int (15 : Int32)), .val (.int (own_v10_39 xa)), .unset] [(.ref oa), (.ref oc)])) rfl rfl (hb hby own_d10_169)
      refine own_go (T' := T53) (f' := (mkF m 172 #[.val (.ref oa), .val (.int xa), .val (.int (15 : Int32)), .val (.int (own_v10_39 xa)), .unset] [(.int nd), (.ref oc)])) ?_ (st53)
      refine own_go (T' := T53) (f' := (mkF m 173 #[.val (.ref oa), .val (.int xa), .val (.int (15 : Int32)), .val (.int (own_v10_39 xa)), .unset] [(.long (1 : Int64)), (.int nd), (.ref oc)])) ?_ (fun _ k => XS.lconst X53.here hx rfl (hb hby own_d10_172) k)
      obtain ⟨T54, h54, X54, e54, W54, F54, st54⟩ := own_stJ X53 hx hZ e53 fa48 (j := nd) (own_ndi hv hb_) (g := (mkF m 173 #[.val (.ref oa), .val (.int xa), .val (.int (15 : Int32)), .val (.int (own_v10_39 xa)), .unset] [(.long (1 : Int64)), (.int nd), (.ref oc)])) rfl rfl (hb hby own_d10_173)
      have fa55 := fa40.wr W54
      have fa56 := fa41.other W54 (Or.inl ne_oa_oc)
      have fa57 := fa42.other W54 (Or.inl ne_oa_oc)
      have fa58 := fa43.other W54 (Or.inl ne_oa_oc)
      have fa59 := fa44.other W54 (Or.inl ne_oa_oc)
      have fa60 := fa45.other W54 (Or.inl ne_oa_oc)
      have fa61 := fa46.other W54 (Or.inl ne_oa_oc)
      have fa63 := fa49.other W54 (Ne.symm ne_oc_oo)
      have fa64 := fa50.other W54 (Ne.symm ne_oc_os)
      have fa65 := fa51.other W54 (Or.inl ne_oa_oc)
      have fa66 := Fw39.other W54 ne_oe_oc
      have Fw54 : own_AJ Z h54 oc (4 : Int32) (LC.set (nd).toNatClampNeg (1 : Int64)) := F54
      have N54 := Fr.snoc X54 N39 g_oc
      have KK54 : Keep h0 h54 [oa, oe, oc, oo, os] := KK39.wr W54 (Or.inl (List.mem_of_getElem? (i := 2) rfl))
      have ZZ54 : n0 ≤ h54.size := Nat.le_trans ZZ39 (Keep.of_wr W54).1
      refine own_go (T' := T54) (f' := (mkF m 174 #[.val (.ref oa), .val (.int xa), .val (.int (15 : Int32)), .val (.int (own_v10_39 xa)), .unset] [])) ?_ (st54)
      refine own_go (T' := T54) (f' := (mkF m 175 #[.val (.ref oa), .val (.int xa), .val (.int (15 : Int32)), .val (.int (own_v10_39 xa)), .unset] [(.ref oa)])) ?_ (fun _ k => XS.aloadN X54.here hx rfl (hb hby own_d10_174) rfl rfl k)
      obtain ⟨T67, X67, e67, st67⟩ := getF X54 hx hZ hown (host := "") (Or.inl (hw _ (List.mem_of_getElem? (i := 15) rfl))) Via.refl e54 fa58 (g := (mkF m 175 #[.val (.ref oa), .val (.int xa), .val (.int (15 : Int32)), .val (.int (own_v10_39 xa)), .unset] [(.ref oa)])) rfl rfl (hb hby own_d10_175)
      refine own_go (T' := T67) (f' := (mkF m 178 #[.val (.ref oa), .val (.int xa), .val (.int (15 : Int32)), .val (.int (own_v10_39 xa)), .unset] [(.ref oo)])) ?_ (st67)
      refine own_go (T' := T67) (f' := (mkF m 179 #[.val (.ref oa), .val (.int xa), .val (.int (15 : Int32)), .val (.int (own_v10_39 xa)), .unset] [(.ref oa), (.ref oo)])) ?_ (fun _ k => XS.aloadN X67.here hx rfl (hb hby own_d10_178) rfl rfl k)
      obtain ⟨T68, X68, e68, st68⟩ := getF X67 hx hZ hown (host := "") (Or.inl (hw _ (List.mem_of_getElem? (i := 24) rfl))) Via.refl e67 fa60 (g := (mkF m 179 #[.val (.ref oa), .val (.int xa), .val (.int (15 : Int32)), .val (.int (own_v10_39 xa)), .unset] [(.ref oa), (.ref oo)])) rfl rfl (hb hby own_d10_179)
      refine own_go (T' := T68) (f' := (mkF m 182 #[.val (.ref oa), .val (.int xa), .val (.int (15 : Int32)), .val (.int (own_v10_39 xa)), .unset] [(.int nd), (.ref oo)])) ?_ (st68)
      refine own_go (T' := T68) (f' := (mkF m 183 #[.val (.ref oa), .val (.int xa), .val (.int (15 : Int32)), .val (.int (own_v10_39 xa)), .unset] [(.int (own_v10_39 xa)), (.int nd), (.ref oo)])) ?_ (fun _ k => XS.iloadN X68.here hx rfl (hb hby own_d10_182) rfl  k)
      obtain ⟨T69, h69, X69, e69, W69, F69, st69⟩ := own_stI X68 hx hZ e68 fa63 (j := nd) (own_ndi hv hb_) (g := (mkF m 183 #[.val (.ref oa), .val (.int xa), .val (.int (15 : Int32)), .val (.int (own_v10_39 xa)), .unset] [(.int (own_v10_39 xa)), (.int nd), (.ref oo)])) rfl rfl (hb hby own_d10_183)
      have fa70 := fa55.wr W69
      have fa71 := fa56.other W69 (Or.inl ne_oa_oo)
      have fa72 := fa57.other W69 (Or.inl ne_oa_oo)
      have fa73 := fa58.other W69 (Or.inl ne_oa_oo)
      have fa74 := fa59.other W69 (Or.inl ne_oa_oo)
      have fa75 := fa60.other W69 (Or.inl ne_oa_oo)
      have fa76 := fa61.other W69 (Or.inl ne_oa_oo)
      have fa78 := fa64.other W69 (Ne.symm ne_oo_os)
      have fa79 := fa65.other W69 (Or.inl ne_oa_oo)
      have fa80 := fa66.other W69 ne_oe_oo
      have fa81 := Fw54.other W69 ne_oc_oo
      have Fw69 : own_AI Z h69 oo .int (4 : Int32) (LO.set (nd).toNatClampNeg (own_v10_39 xa)) := F69
      have N69 := Fr.snoc X69 N54 g_oo
      have KK69 : Keep h0 h69 [oa, oe, oc, oo, os] := KK54.wr W69 (Or.inl (List.mem_of_getElem? (i := 3) rfl))
      have ZZ69 : n0 ≤ h69.size := Nat.le_trans ZZ54 (Keep.of_wr W69).1
      refine own_go (T' := T69) (f' := (mkF m 184 #[.val (.ref oa), .val (.int xa), .val (.int (15 : Int32)), .val (.int (own_v10_39 xa)), .unset] [])) ?_ (st69)
      refine own_go (T' := T69) (f' := (mkF m 185 #[.val (.ref oa), .val (.int xa), .val (.int (15 : Int32)), .val (.int (own_v10_39 xa)), .unset] [(.ref oa)])) ?_ (fun _ k => XS.aloadN X69.here hx rfl (hb hby own_d10_184) rfl rfl k)
      obtain ⟨T82, X82, e82, st82⟩ := getF X69 hx hZ hown (host := "") (Or.inl (hw _ (List.mem_of_getElem? (i := 17) rfl))) Via.refl e69 fa74 (g := (mkF m 185 #[.val (.ref oa), .val (.int xa), .val (.int (15 : Int32)), .val (.int (own_v10_39 xa)), .unset] [(.ref oa)])) rfl rfl (hb hby own_d10_185)
      refine own_go (T' := T82) (f' := (mkF m 188 #[.val (.ref oa), .val (.int xa), .val (.int (15 : Int32)), .val (.int (own_v10_39 xa)), .unset] [(.ref os)])) ?_ (st82)
      refine own_go (T' := T82) (f' := (mkF m 189 #[.val (.ref oa), .val (.int xa), .val (.int (15 : Int32)), .val (.int (own_v10_39 xa)), .unset] [(.int (own_v10_39 xa)), (.ref os)])) ?_ (fun _ k => XS.iloadN X82.here hx rfl (hb hby own_d10_188) rfl  k)
      refine own_go (T' := T82) (f' := (mkF m 190 #[.val (.ref oa), .val (.int xa), .val (.int (15 : Int32)), .val (.int (own_v10_39 xa)), .unset] [(.ref oa), (.int (own_v10_39 xa)), (.ref os)])) ?_ (fun _ k => XS.aloadN X82.here hx rfl (hb hby own_d10_189) rfl rfl k)
      refine own_go (T' := T82) (f' := (mkF m 191 #[.val (.ref oa), .val (.int xa), .val (.int (15 : Int32)), .val (.int (own_v10_39 xa)), .unset] [(.ref oa), (.ref oa), (.int (own_v10_39 xa)), (.ref os)])) ?_ (fun _ k => XS.dup X82.here hx rfl (hb hby own_d10_190) rfl rfl k)
      obtain ⟨T83, X83, e83, st83⟩ := getF X82 hx hZ hown (host := "") (Or.inl (hw _ (List.mem_of_getElem? (i := 24) rfl))) Via.refl e82 fa75 (g := (mkF m 191 #[.val (.ref oa), .val (.int xa), .val (.int (15 : Int32)), .val (.int (own_v10_39 xa)), .unset] [(.ref oa), (.ref oa), (.int (own_v10_39 xa)), (.ref os)])) rfl rfl (hb hby own_d10_191)
      refine own_go (T' := T83) (f' := (mkF m 194 #[.val (.ref oa), .val (.int xa), .val (.int (15 : Int32)), .val (.int (own_v10_39 xa)), .unset] [(.int nd), (.ref oa), (.int (own_v10_39 xa)), (.ref os)])) ?_ (st83)
      refine own_go (T' := T83) (f' := (mkF m 195 #[.val (.ref oa), .val (.int xa), .val (.int (15 : Int32)), .val (.int (own_v10_39 xa)), .unset] [(.int (1 : Int32)), (.int nd), (.ref oa), (.int (own_v10_39 xa)), (.ref os)])) ?_ (fun _ k => XS.iconst X83.here hx rfl (hb hby own_d10_194) k)
      refine own_go (T' := T83) (f' := (mkF m 196 #[.val (.ref oa), .val (.int xa), .val (.int (15 : Int32)), .val (.int (own_v10_39 xa)), .unset] [(.int (nd + (1 : Int32))), (.ref oa), (.int (own_v10_39 xa)), (.ref os)])) ?_ (fun _ k => XS.iadd X83.here hx rfl (hb hby own_d10_195) rfl k)
      refine own_go (T' := T83) (f' := (mkF m 197 #[.val (.ref oa), .val (.int xa), .val (.int (15 : Int32)), .val (.int (own_v10_39 xa)), .unset] [(.int (nd + (1 : Int32))), (.ref oa), (.int (nd + (1 : Int32))), (.int (own_v10_39 xa)), (.ref os)])) ?_ (fun _ k => XS.dupX1 X83.here hx rfl (hb hby own_d10_196) rfl rfl rfl k)
      obtain ⟨T84, h84, X84, e84, W84, st84⟩ := putF X83 hx hZ hown (host := "") (Or.inl (hw _ (List.mem_of_getElem? (i := 24) rfl))) Via.refl e83 fa75 fa70 (Or.inl (hw _ (List.mem_of_getElem? (i := 25) rfl))) (hw _ (List.mem_of_getElem? (i := 1) rfl)) (ty := .int) (by decide) rfl rfl (g := (mkF m 197 #[.val (.ref oa), .val (.int xa), .val (.int (15 : Int32)), .val (.int (own_v10_39 xa)), .unset] [(.int (nd + (1 : Int32))), (.ref oa), (.int (nd + (1 : Int32))), (.int (own_v10_39 xa)), (.ref os)])) rfl rfl (hb hby own_d10_197)
      have fa85 := fa70.wr W84
      have fa86 := fa71.other W84 (Or.inr (slot_ne (Or.inl (hw _ (List.mem_of_getElem? (i := 11) rfl))) (Or.inl (hw _ (List.mem_of_getElem? (i := 25) rfl))) (by decide) (t := (.array .int)) (t' := .int) (by decide) (by decide)))
      have fa87 := fa72.other W84 (Or.inr (slot_ne (Or.inl (hw _ (List.mem_of_getElem? (i := 14) rfl))) (Or.inl (hw _ (List.mem_of_getElem? (i := 25) rfl))) (by decide) (t := (.array .long)) (t' := .int) (by decide) (by decide)))
      have fa88 := fa73.other W84 (Or.inr (slot_ne (Or.inl (hw _ (List.mem_of_getElem? (i := 16) rfl))) (Or.inl (hw _ (List.mem_of_getElem? (i := 25) rfl))) (by decide) (t := (.array .int)) (t' := .int) (by decide) (by decide)))
      have fa89 := fa74.other W84 (Or.inr (slot_ne (Or.inl (hw _ (List.mem_of_getElem? (i := 18) rfl))) (Or.inl (hw _ (List.mem_of_getElem? (i := 25) rfl))) (by decide) (t := (.array .int)) (t' := .int) (by decide) (by decide)))
      have fa91 := fa76.other W84 (Or.inr (slot_ne (Or.inl (hw _ (List.mem_of_getElem? (i := 29) rfl))) (Or.inl (hw _ (List.mem_of_getElem? (i := 25) rfl))) (by decide) (t := .long) (t' := .int) (by decide) (by decide)))
      have fa92 := fa78.other W84 (Ne.symm ne_oa_os)
      have fa93 := fa79.other W84 (Or.inr (slot_ne (Or.inl (hw _ (List.mem_of_getElem? (i := 27) rfl))) (Or.inl (hw _ (List.mem_of_getElem? (i := 25) rfl))) (by decide) (t := .long) (t' := .int) (by decide) (by decide)))
      have fa94 := fa80.other W84 (Ne.symm ne_oa_oe)
      have fa95 := fa81.other W84 (Ne.symm ne_oa_oc)
      have fa96 := Fw69.other W84 (Ne.symm ne_oa_oo)
      have Fw84 := fa75.same W84
      have N84 := Fr.snoc X84 N69 g_oa
      have KK84 : Keep h0 h84 [oa, oe, oc, oo, os] := KK69.wr W84 (Or.inl (List.mem_of_getElem? (i := 0) rfl))
      have ZZ84 : n0 ≤ h84.size := Nat.le_trans ZZ69 (Keep.of_wr W84).1
      refine own_go (T' := T84) (f' := (mkF m 200 #[.val (.ref oa), .val (.int xa), .val (.int (15 : Int32)), .val (.int (own_v10_39 xa)), .unset] [(.int (nd + (1 : Int32))), (.int (own_v10_39 xa)), (.ref os)])) ?_ (st84)
      obtain ⟨T97, h97, X97, e97, W97, F97, st97⟩ := own_stI X84 hx hZ e84 fa92 (j := (own_v10_39 xa)) (own_h15 _) (g := (mkF m 200 #[.val (.ref oa), .val (.int xa), .val (.int (15 : Int32)), .val (.int (own_v10_39 xa)), .unset] [(.int (nd + (1 : Int32))), (.int (own_v10_39 xa)), (.ref os)])) rfl rfl (hb hby own_d10_200)
      have fa98 := fa85.wr W97
      have fa99 := fa86.other W97 (Or.inl ne_oa_os)
      have fa100 := fa87.other W97 (Or.inl ne_oa_os)
      have fa101 := fa88.other W97 (Or.inl ne_oa_os)
      have fa102 := fa89.other W97 (Or.inl ne_oa_os)
      have fa103 := fa91.other W97 (Or.inl ne_oa_os)
      have fa105 := fa93.other W97 (Or.inl ne_oa_os)
      have fa106 := fa94.other W97 ne_oe_os
      have fa107 := fa95.other W97 ne_oc_os
      have fa108 := fa96.other W97 ne_oo_os
      have fa109 := Fw84.other W97 (Or.inl ne_oa_os)
      have Fw97 : own_AI Z h97 os .int (16 : Int32) (LS.set ((own_v10_39 xa)).toNatClampNeg (nd + (1 : Int32))) := F97
      have N97 := Fr.snoc X97 N84 g_os
      have KK97 : Keep h0 h97 [oa, oe, oc, oo, os] := KK84.wr W97 (Or.inl (List.mem_of_getElem? (i := 4) rfl))
      have ZZ97 : n0 ≤ h97.size := Nat.le_trans ZZ84 (Keep.of_wr W97).1
      refine own_go (T' := T97) (f' := (mkF m 201 #[.val (.ref oa), .val (.int xa), .val (.int (15 : Int32)), .val (.int (own_v10_39 xa)), .unset] [])) ?_ (st97)
      refine own_go (T' := T97) (f' := (mkF m 202 #[.val (.ref oa), .val (.int xa), .val (.int (15 : Int32)), .val (.int (own_v10_39 xa)), .unset] [(.int (2 : Int32))])) ?_ (fun _ k => XS.iconst X97.here hx rfl (hb hby own_d10_201) k)
      refine own_go (T' := T97) (f' := (mkF m 203 #[.val (.ref oa), .val (.int xa), .val (.int (15 : Int32)), .val (.int (own_v10_39 xa)), .unset] [(.ref oa), (.int (2 : Int32))])) ?_ (fun _ k => XS.aloadN X97.here hx rfl (hb hby own_d10_202) rfl rfl k)
      obtain ⟨T110, X110, e110, st110⟩ := getF X97 hx hZ hown (host := "") (Or.inl (hw _ (List.mem_of_getElem? (i := 24) rfl))) Via.refl e97 fa109 (g := (mkF m 203 #[.val (.ref oa), .val (.int xa), .val (.int (15 : Int32)), .val (.int (own_v10_39 xa)), .unset] [(.ref oa), (.int (2 : Int32))])) rfl rfl (hb hby own_d10_203)
      refine own_go (T' := T110) (f' := (mkF m 206 #[.val (.ref oa), .val (.int xa), .val (.int (15 : Int32)), .val (.int (own_v10_39 xa)), .unset] [(.int (nd + (1 : Int32))), (.int (2 : Int32))])) ?_ (st110)
      refine own_go (T' := T110) (f' := (mkF m 207 #[.val (.ref oa), .val (.int xa), .val (.int (15 : Int32)), .val (.int (own_v10_39 xa)), .unset] [(.int ((2 : Int32) * (nd + (1 : Int32))))])) ?_ (fun _ k => XS.imul X110.here hx rfl (hb hby own_d10_206) rfl k)
      refine own_go (T' := T110) (f' := (mkF m 208 #[.val (.ref oa), .val (.int xa), .val (.int (15 : Int32)), .val (.int (own_v10_39 xa)), .unset] [(.ref oa), (.int ((2 : Int32) * (nd + (1 : Int32))))])) ?_ (fun _ k => XS.aloadN X110.here hx rfl (hb hby own_d10_207) rfl rfl k)
      obtain ⟨T111, X111, e111, st111⟩ := getF X110 hx hZ hown (host := "") (Or.inl (hw _ (List.mem_of_getElem? (i := 17) rfl))) Via.refl e110 fa102 (g := (mkF m 208 #[.val (.ref oa), .val (.int xa), .val (.int (15 : Int32)), .val (.int (own_v10_39 xa)), .unset] [(.ref oa), (.int ((2 : Int32) * (nd + (1 : Int32))))])) rfl rfl (hb hby own_d10_208)
      refine own_go (T' := T111) (f' := (mkF m 211 #[.val (.ref oa), .val (.int xa), .val (.int (15 : Int32)), .val (.int (own_v10_39 xa)), .unset] [(.ref os), (.int ((2 : Int32) * (nd + (1 : Int32))))])) ?_ (st111)
      refine own_go (T' := T111) (f' := (mkF m 212 #[.val (.ref oa), .val (.int xa), .val (.int (15 : Int32)), .val (.int (own_v10_39 xa)), .unset] [(.int (16 : Int32)), (.int ((2 : Int32) * (nd + (1 : Int32))))])) ?_ (own_len X111 hx hZ e111 Fw97 (g := (mkF m 211 #[.val (.ref oa), .val (.int xa), .val (.int (15 : Int32)), .val (.int (own_v10_39 xa)), .unset] [(.ref os), (.int ((2 : Int32) * (nd + (1 : Int32))))])) rfl rfl (hb hby own_d10_211))
      have hk212_112 : ¬ ((16 : Int32) < ((2 : Int32) * (nd + (1 : Int32)))) := (own_nd16 hv hb_)
      refine own_go (T' := T111) (f' := (mkF m 219 #[.val (.ref oa), .val (.int xa), .val (.int (15 : Int32)), .val (.int (own_v10_39 xa)), .unset] [])) ?_ (fun _ k => XS.icmpYes X111.here hx rfl (pc0 := 212) (pc' := 219) rfl (hb hby own_d10_212) rfl (flt hk212_112).2.2.2 (by decide) (by decide) k)
      obtain ⟨fs113, hr113, hrun113, hended113, hW113, hsame113⟩ := X111.leave (v := none) (fun _ => rfl)
      refine ⟨_, ⟨_, hrun113, hended113, _, _, rfl, ?_, ⟨_, rfl⟩, hW113, hsame113.mono (by decide) (by decide)⟩, fun _ k => (X111.returnOut hx Bd.returns (hb hby own_d10_219) hr113).trans k⟩
      show own_Q10 Z oa xa oe oc oo os nd tt ig LE LC LO LS bb h0 n0 _ T111.heap _
      rw [e111]
      exact ⟨(nd + (1 : Int32)), (tt + (1 : Int64)), ig, (LE.set (nd).toNatClampNeg xa), (LC.set (nd).toNatClampNeg (1 : Int64)), (LO.set (nd).toNatClampNeg (own_v10_39 xa)), (LS.set ((own_v10_39 xa)).toNatClampNeg (nd + (1 : Int32))), rfl, N97, KK97, fa99, fa100, fa101, fa102, fa109, fa105, fa103, fa106, fa107, fa108, Fw97, (own_inv_ins hv hb_ hc46_33 (own_h15 _) A_oo A_os), (own_spec_ins hc1_1 A_oe A_oc)⟩
    · refine own_go (T' := T32) (f' := (mkF m 49 #[.val (.ref oa), .val (.int xa), .val (.int (15 : Int32)), .val (.int (own_v10_39 xa)), .unset] [])) ?_ (fun _ k => XS.ifNo X32.here hx rfl (hb hby own_d10_46) rfl ((if0 _ _).trans (feq hc46_33).1) k)
      refine own_go (T' := T32) (f' := (mkF m 50 #[.val (.ref oa), .val (.int xa), .val (.int (15 : Int32)), .val (.int (own_v10_39 xa)), .unset] [(.ref oa)])) ?_ (fun _ k => XS.aloadN X32.here hx rfl (hb hby own_d10_49) rfl rfl k)
      obtain ⟨T114, X114, e114, st114⟩ := getF X32 hx hZ hown (host := "") (Or.inl (hw _ (List.mem_of_getElem? (i := 17) rfl))) Via.refl e32 fa23 (g := (mkF m 50 #[.val (.ref oa), .val (.int xa), .val (.int (15 : Int32)), .val (.int (own_v10_39 xa)), .unset] [(.ref oa)])) rfl rfl (hb hby own_d10_50)
      refine own_go (T' := T114) (f' := (mkF m 53 #[.val (.ref oa), .val (.int xa), .val (.int (15 : Int32)), .val (.int (own_v10_39 xa)), .unset] [(.ref os)])) ?_ (st114)
      refine own_go (T' := T114) (f' := (mkF m 54 #[.val (.ref oa), .val (.int xa), .val (.int (15 : Int32)), .val (.int (own_v10_39 xa)), .unset] [(.int (own_v10_39 xa)), (.ref os)])) ?_ (fun _ k => XS.iloadN X114.here hx rfl (hb hby own_d10_53) rfl  k)
      refine own_go (T' := T114) (f' := (mkF m 55 #[.val (.ref oa), .val (.int xa), .val (.int (15 : Int32)), .val (.int (own_v10_39 xa)), .unset] [(.int (LS.getD ((own_v10_39 xa)).toNatClampNeg 0))])) ?_ (own_ldI X114 hx hZ e114 fa30 (j := (own_v10_39 xa)) (own_h15 _) (g := (mkF m 54 #[.val (.ref oa), .val (.int xa), .val (.int (15 : Int32)), .val (.int (own_v10_39 xa)), .unset] [(.int (own_v10_39 xa)), (.ref os)])) rfl rfl (hb hby own_d10_54))
      refine own_go (T' := T114) (f' := (mkF m 56 #[.val (.ref oa), .val (.int xa), .val (.int (15 : Int32)), .val (.int (own_v10_39 xa)), .unset] [(.int (1 : Int32)), (.int (LS.getD ((own_v10_39 xa)).toNatClampNeg 0))])) ?_ (fun _ k => XS.iconst X114.here hx rfl (hb hby own_d10_55) k)
      refine own_go (T' := T114) (f' := (mkF m 57 #[.val (.ref oa), .val (.int xa), .val (.int (15 : Int32)), .val (.int (own_v10_39 xa)), .unset] [(.int ((LS.getD ((own_v10_39 xa)).toNatClampNeg 0) - (1 : Int32)))])) ?_ (fun _ k => XS.isub X114.here hx rfl (hb hby own_d10_56) rfl k)
      refine own_go (T' := T114) (f' := (mkF m 59 #[.val (.ref oa), .val (.int xa), .val (.int (15 : Int32)), .val (.int (own_v10_39 xa)), .val (.int (own_v10_57 xa LS))] [])) ?_ (fun _ k => XS.istore X114.here hx rfl (hb hby own_d10_57) rfl (l' := #[.val (.ref oa), .val (.int xa), .val (.int (15 : Int32)), .val (.int (own_v10_39 xa)), .val (.int (own_v10_57 xa LS))]) rfl k)
      refine own_go (T' := T114) (f' := (mkF m 60 #[.val (.ref oa), .val (.int xa), .val (.int (15 : Int32)), .val (.int (own_v10_39 xa)), .val (.int (own_v10_57 xa LS))] [(.ref oa)])) ?_ (fun _ k => XS.aloadN X114.here hx rfl (hb hby own_d10_59) rfl rfl k)
      obtain ⟨T115, X115, e115, st115⟩ := getF X114 hx hZ hown (host := "") (Or.inl (hw _ (List.mem_of_getElem? (i := 10) rfl))) Via.refl e114 fa20 (g := (mkF m 60 #[.val (.ref oa), .val (.int xa), .val (.int (15 : Int32)), .val (.int (own_v10_39 xa)), .val (.int (own_v10_57 xa LS))] [(.ref oa)])) rfl rfl (hb hby own_d10_60)
      refine own_go (T' := T115) (f' := (mkF m 63 #[.val (.ref oa), .val (.int xa), .val (.int (15 : Int32)), .val (.int (own_v10_39 xa)), .val (.int (own_v10_57 xa LS))] [(.ref oe)])) ?_ (st115)
      refine own_go (T' := T115) (f' := (mkF m 65 #[.val (.ref oa), .val (.int xa), .val (.int (15 : Int32)), .val (.int (own_v10_39 xa)), .val (.int (own_v10_57 xa LS))] [(.int (own_v10_57 xa LS)), (.ref oe)])) ?_ (fun _ k => XS.iload X115.here hx rfl (hb hby own_d10_63) rfl  k)
      refine own_go (T' := T115) (f' := (mkF m 66 #[.val (.ref oa), .val (.int xa), .val (.int (15 : Int32)), .val (.int (own_v10_39 xa)), .val (.int (own_v10_57 xa LS))] [(.int (LE.getD ((own_v10_57 xa LS)).toNatClampNeg 0))])) ?_ (own_ldI X115 hx hZ e115 fa27 (j := (own_v10_57 xa LS)) (own_slot hv hb_ hc46_33 (own_h15 _)) (g := (mkF m 65 #[.val (.ref oa), .val (.int xa), .val (.int (15 : Int32)), .val (.int (own_v10_39 xa)), .val (.int (own_v10_57 xa LS))] [(.int (own_v10_57 xa LS)), (.ref oe)])) rfl rfl (hb hby own_d10_65))
      refine own_go (T' := T115) (f' := (mkF m 67 #[.val (.ref oa), .val (.int xa), .val (.int (15 : Int32)), .val (.int (own_v10_39 xa)), .val (.int (own_v10_57 xa LS))] [(.int xa), (.int (LE.getD ((own_v10_57 xa LS)).toNatClampNeg 0))])) ?_ (fun _ k => XS.iloadN X115.here hx rfl (hb hby own_d10_66) rfl  k)
      by_cases hc67_116 : (LE.getD ((own_v10_57 xa LS)).toNatClampNeg 0) = xa
      · refine own_go (T' := T115) (f' := (mkF m 70 #[.val (.ref oa), .val (.int xa), .val (.int (15 : Int32)), .val (.int (own_v10_39 xa)), .val (.int (own_v10_57 xa LS))] [])) ?_ (fun _ k => XS.icmpNo X115.here hx rfl (hb hby own_d10_67) rfl (teq hc67_116).2 k)
        refine own_go (T' := T115) (f' := (mkF m 71 #[.val (.ref oa), .val (.int xa), .val (.int (15 : Int32)), .val (.int (own_v10_39 xa)), .val (.int (own_v10_57 xa LS))] [(.ref oa)])) ?_ (fun _ k => XS.aloadN X115.here hx rfl (hb hby own_d10_70) rfl rfl k)
        obtain ⟨T117, X117, e117, st117⟩ := getF X115 hx hZ hown (host := "") (Or.inl (hw _ (List.mem_of_getElem? (i := 13) rfl))) Via.refl e115 fa21 (g := (mkF m 71 #[.val (.ref oa), .val (.int xa), .val (.int (15 : Int32)), .val (.int (own_v10_39 xa)), .val (.int (own_v10_57 xa LS))] [(.ref oa)])) rfl rfl (hb hby own_d10_71)
        refine own_go (T' := T117) (f' := (mkF m 74 #[.val (.ref oa), .val (.int xa), .val (.int (15 : Int32)), .val (.int (own_v10_39 xa)), .val (.int (own_v10_57 xa LS))] [(.ref oc)])) ?_ (st117)
        refine own_go (T' := T117) (f' := (mkF m 76 #[.val (.ref oa), .val (.int xa), .val (.int (15 : Int32)), .val (.int (own_v10_39 xa)), .val (.int (own_v10_57 xa LS))] [(.int (own_v10_57 xa LS)), (.ref oc)])) ?_ (fun _ k => XS.iload X117.here hx rfl (hb hby own_d10_74) rfl  k)
        refine own_go (T' := T117) (f' := (mkF m 77 #[.val (.ref oa), .val (.int xa), .val (.int (15 : Int32)), .val (.int (own_v10_39 xa)), .val (.int (own_v10_57 xa LS))] [(.int (own_v10_57 xa LS)), (.ref oc), (.int (own_v10_57 xa LS)), (.ref oc)])) ?_ (fun _ k => Jvm.Free.XT.dup2 X117.here hx rfl (hb hby own_d10_76) rfl rfl rfl k)
        refine own_go (T' := T117) (f' := (mkF m 78 #[.val (.ref oa), .val (.int xa), .val (.int (15 : Int32)), .val (.int (own_v10_39 xa)), .val (.int (own_v10_57 xa LS))] [(.long (LC.getD ((own_v10_57 xa LS)).toNatClampNeg (0 : Int64))), (.int (own_v10_57 xa LS)), (.ref oc)])) ?_ (own_ldJ X117 hx hZ e117 fa28 (j := (own_v10_57 xa LS)) (own_slot hv hb_ hc46_33 (own_h15 _)) (g := (mkF m 77 #[.val (.ref oa), .val (.int xa), .val (.int (15 : Int32)), .val (.int (own_v10_39 xa)), .val (.int (own_v10_57 xa LS))] [(.int (own_v10_57 xa LS)), (.ref oc), (.int (own_v10_57 xa LS)), (.ref oc)])) rfl rfl (hb hby own_d10_77))
        refine own_go (T' := T117) (f' := (mkF m 79 #[.val (.ref oa), .val (.int xa), .val (.int (15 : Int32)), .val (.int (own_v10_39 xa)), .val (.int (own_v10_57 xa LS))] [(.long (1 : Int64)), (.long (LC.getD ((own_v10_57 xa LS)).toNatClampNeg (0 : Int64))), (.int (own_v10_57 xa LS)), (.ref oc)])) ?_ (fun _ k => XS.lconst X117.here hx rfl (hb hby own_d10_78) k)
        refine own_go (T' := T117) (f' := (mkF m 80 #[.val (.ref oa), .val (.int xa), .val (.int (15 : Int32)), .val (.int (own_v10_39 xa)), .val (.int (own_v10_57 xa LS))] [(.long ((LC.getD ((own_v10_57 xa LS)).toNatClampNeg (0 : Int64)) + (1 : Int64))), (.int (own_v10_57 xa LS)), (.ref oc)])) ?_ (fun _ k => XS.ladd X117.here hx rfl (hb hby own_d10_79) rfl k)
        obtain ⟨T118, h118, X118, e118, W118, F118, st118⟩ := own_stJ X117 hx hZ e117 fa28 (j := (own_v10_57 xa LS)) (own_slot hv hb_ hc46_33 (own_h15 _)) (g := (mkF m 80 #[.val (.ref oa), .val (.int xa), .val (.int (15 : Int32)), .val (.int (own_v10_39 xa)), .val (.int (own_v10_57 xa LS))] [(.long ((LC.getD ((own_v10_57 xa LS)).toNatClampNeg (0 : Int64)) + (1 : Int64))), (.int (own_v10_57 xa LS)), (.ref oc)])) rfl rfl (hb hby own_d10_80)
        have fa119 := fa19.wr W118
        have fa120 := fa20.other W118 (Or.inl ne_oa_oc)
        have fa121 := fa21.other W118 (Or.inl ne_oa_oc)
        have fa122 := fa22.other W118 (Or.inl ne_oa_oc)
        have fa123 := fa23.other W118 (Or.inl ne_oa_oc)
        have fa124 := fa24.other W118 (Or.inl ne_oa_oc)
        have fa125 := fa26.other W118 (Or.inl ne_oa_oc)
        have fa126 := fa27.other W118 ne_oe_oc
        have fa128 := fa29.other W118 (Ne.symm ne_oc_oo)
        have fa129 := fa30.other W118 (Ne.symm ne_oc_os)
        have fa130 := Fw18.other W118 (Or.inl ne_oa_oc)
        have Fw118 : own_AJ Z h118 oc (4 : Int32) (LC.set ((own_v10_57 xa LS)).toNatClampNeg (own_v10_80 xa LC LS)) := F118
        have N118 := Fr.snoc X118 N18 g_oc
        have KK118 : Keep h0 h118 [oa, oe, oc, oo, os] := KK18.wr W118 (Or.inl (List.mem_of_getElem? (i := 2) rfl))
        have ZZ118 : n0 ≤ h118.size := Nat.le_trans ZZ18 (Keep.of_wr W118).1
        refine own_go (T' := T118) (f' := (mkF m 81 #[.val (.ref oa), .val (.int xa), .val (.int (15 : Int32)), .val (.int (own_v10_39 xa)), .val (.int (own_v10_57 xa LS))] [])) ?_ (st118)
        obtain ⟨fs131, hr131, hrun131, hended131, hW131, hsame131⟩ := X118.leave (v := none) (fun _ => rfl)
        refine ⟨_, ⟨_, hrun131, hended131, _, _, rfl, ?_, ⟨_, rfl⟩, hW131, hsame131.mono (by decide) (by decide)⟩, fun _ k => (X118.returnOut hx Bd.returns (hb hby own_d10_81) hr131).trans k⟩
        show own_Q10 Z oa xa oe oc oo os nd tt ig LE LC LO LS bb h0 n0 _ T118.heap _
        rw [e118]
        exact ⟨nd, (tt + (1 : Int64)), ig, LE, (LC.set ((own_v10_57 xa LS)).toNatClampNeg (own_v10_80 xa LC LS)), LO, LS, rfl, N118, KK118, fa120, fa121, fa122, fa123, fa124, fa130, fa125, fa126, Fw118, fa128, fa129, (own_inv_mono hv), (own_spec_far hc1_1 hc46_33 (own_h15 _))⟩
      · refine own_go (T' := T115) (f' := (mkF m 82 #[.val (.ref oa), .val (.int xa), .val (.int (15 : Int32)), .val (.int (own_v10_39 xa)), .val (.int (own_v10_57 xa LS))] [])) ?_ (fun _ k => XS.icmpYes X115.here hx rfl (pc0 := 67) (pc' := 82) rfl (hb hby own_d10_67) rfl (feq hc67_116).2 (by decide) (by decide) k)
        refine own_go (T' := T115) (f' := (mkF m 83 #[.val (.ref oa), .val (.int xa), .val (.int (15 : Int32)), .val (.int (own_v10_39 xa)), .val (.int (own_v10_57 xa LS))] [(.int (own_v10_39 xa))])) ?_ (fun _ k => XS.iloadN X115.here hx rfl (hb hby own_d10_82) rfl  k)
        refine own_go (T' := T115) (f' := (mkF m 84 #[.val (.ref oa), .val (.int xa), .val (.int (15 : Int32)), .val (.int (own_v10_39 xa)), .val (.int (own_v10_57 xa LS))] [(.int (1 : Int32)), (.int (own_v10_39 xa))])) ?_ (fun _ k => XS.iconst X115.here hx rfl (hb hby own_d10_83) k)
        refine own_go (T' := T115) (f' := (mkF m 85 #[.val (.ref oa), .val (.int xa), .val (.int (15 : Int32)), .val (.int (own_v10_39 xa)), .val (.int (own_v10_57 xa LS))] [(.int ((own_v10_39 xa) + (1 : Int32)))])) ?_ (fun _ k => XS.iadd X115.here hx rfl (hb hby own_d10_84) rfl k)
        refine own_go (T' := T115) (f' := (mkF m 86 #[.val (.ref oa), .val (.int xa), .val (.int (15 : Int32)), .val (.int (own_v10_39 xa)), .val (.int (own_v10_57 xa LS))] [(.int (15 : Int32)), (.int ((own_v10_39 xa) + (1 : Int32)))])) ?_ (fun _ k => XS.iloadN X115.here hx rfl (hb hby own_d10_85) rfl  k)
        refine own_go (T' := T115) (f' := (mkF m 87 #[.val (.ref oa), .val (.int xa), .val (.int (15 : Int32)), .val (.int (own_v10_39 xa)), .val (.int (own_v10_57 xa LS))] [(.int (((own_v10_39 xa) + (1 : Int32)) &&& (15 : Int32)))])) ?_ (fun _ k => XS.iand X115.here hx rfl (hb hby own_d10_86) rfl k)
        refine own_go (T' := T115) (f' := (mkF m 88 #[.val (.ref oa), .val (.int xa), .val (.int (15 : Int32)), .val (.int (own_v10_87 xa)), .val (.int (own_v10_57 xa LS))] [])) ?_ (fun _ k => XS.istoreN X115.here hx rfl (hb hby own_d10_87) rfl (l' := #[.val (.ref oa), .val (.int xa), .val (.int (15 : Int32)), .val (.int (own_v10_87 xa)), .val (.int (own_v10_57 xa LS))]) rfl k)
        refine own_go (T' := T115) (f' := (mkF m 40 #[.val (.ref oa), .val (.int xa), .val (.int (15 : Int32)), .val (.int (own_v10_87 xa)), .val (.int (own_v10_57 xa LS))] [])) ?_ (fun _ k => XS.goto X115.here hx rfl (pc0 := 88) (pc' := 40) rfl (hb hby own_d10_88) (by decide) (by decide) k)
        refine own_go (T' := T115) (f' := (mkF m 41 #[.val (.ref oa), .val (.int xa), .val (.int (15 : Int32)), .val (.int (own_v10_87 xa)), .val (.int (own_v10_57 xa LS))] [(.ref oa)])) ?_ (fun _ k => XS.aloadN X115.here hx rfl (hb hby own_d10_40) rfl rfl k)
        obtain ⟨T132, X132, e132, st132⟩ := getF X115 hx hZ hown (host := "") (Or.inl (hw _ (List.mem_of_getElem? (i := 17) rfl))) Via.refl e115 fa23 (g := (mkF m 41 #[.val (.ref oa), .val (.int xa), .val (.int (15 : Int32)), .val (.int (own_v10_87 xa)), .val (.int (own_v10_57 xa LS))] [(.ref oa)])) rfl rfl (hb hby own_d10_41)
        refine own_go (T' := T132) (f' := (mkF m 44 #[.val (.ref oa), .val (.int xa), .val (.int (15 : Int32)), .val (.int (own_v10_87 xa)), .val (.int (own_v10_57 xa LS))] [(.ref os)])) ?_ (st132)
        refine own_go (T' := T132) (f' := (mkF m 45 #[.val (.ref oa), .val (.int xa), .val (.int (15 : Int32)), .val (.int (own_v10_87 xa)), .val (.int (own_v10_57 xa LS))] [(.int (own_v10_87 xa)), (.ref os)])) ?_ (fun _ k => XS.iloadN X132.here hx rfl (hb hby own_d10_44) rfl  k)
        refine own_go (T' := T132) (f' := (mkF m 46 #[.val (.ref oa), .val (.int xa), .val (.int (15 : Int32)), .val (.int (own_v10_87 xa)), .val (.int (own_v10_57 xa LS))] [(.int (LS.getD ((own_v10_87 xa)).toNatClampNeg 0))])) ?_ (own_ldI X132 hx hZ e132 fa30 (j := (own_v10_87 xa)) (own_h15 _) (g := (mkF m 45 #[.val (.ref oa), .val (.int xa), .val (.int (15 : Int32)), .val (.int (own_v10_87 xa)), .val (.int (own_v10_57 xa LS))] [(.int (own_v10_87 xa)), (.ref os)])) rfl rfl (hb hby own_d10_45))
        by_cases hc46_133 : (LS.getD ((own_v10_87 xa)).toNatClampNeg 0) = (0 : Int32)
        · refine own_go (T' := T132) (f' := (mkF m 91 #[.val (.ref oa), .val (.int xa), .val (.int (15 : Int32)), .val (.int (own_v10_87 xa)), .val (.int (own_v10_57 xa LS))] [])) ?_ (fun _ k => XS.ifYes X132.here hx rfl (pc0 := 46) (pc' := 91) rfl (hb hby own_d10_46) rfl ((if0 _ _).trans (teq hc46_133).1) (by decide) (by decide) k)
          refine own_go (T' := T132) (f' := (mkF m 92 #[.val (.ref oa), .val (.int xa), .val (.int (15 : Int32)), .val (.int (own_v10_87 xa)), .val (.int (own_v10_57 xa LS))] [(.ref oa)])) ?_ (fun _ k => XS.aloadN X132.here hx rfl (hb hby own_d10_91) rfl rfl k)
          obtain ⟨T134, X134, e134, st134⟩ := getF X132 hx hZ hown (host := "") (Or.inl (hw _ (List.mem_of_getElem? (i := 24) rfl))) Via.refl e132 fa24 (g := (mkF m 92 #[.val (.ref oa), .val (.int xa), .val (.int (15 : Int32)), .val (.int (own_v10_87 xa)), .val (.int (own_v10_57 xa LS))] [(.ref oa)])) rfl rfl (hb hby own_d10_92)
          refine own_go (T' := T134) (f' := (mkF m 95 #[.val (.ref oa), .val (.int xa), .val (.int (15 : Int32)), .val (.int (own_v10_87 xa)), .val (.int (own_v10_57 xa LS))] [(.int nd)])) ?_ (st134)
          refine own_go (T' := T134) (f' := (mkF m 96 #[.val (.ref oa), .val (.int xa), .val (.int (15 : Int32)), .val (.int (own_v10_87 xa)), .val (.int (own_v10_57 xa LS))] [(.ref oa), (.int nd)])) ?_ (fun _ k => XS.aloadN X134.here hx rfl (hb hby own_d10_95) rfl rfl k)
          obtain ⟨T135, X135, e135, st135⟩ := getF X134 hx hZ hown (host := "") (Or.inl (hw _ (List.mem_of_getElem? (i := 10) rfl))) Via.refl e134 fa20 (g := (mkF m 96 #[.val (.ref oa), .val (.int xa), .val (.int (15 : Int32)), .val (.int (own_v10_87 xa)), .val (.int (own_v10_57 xa LS))] [(.ref oa), (.int nd)])) rfl rfl (hb hby own_d10_96)
          refine own_go (T' := T135) (f' := (mkF m 99 #[.val (.ref oa), .val (.int xa), .val (.int (15 : Int32)), .val (.int (own_v10_87 xa)), .val (.int (own_v10_57 xa LS))] [(.ref oe), (.int nd)])) ?_ (st135)
          refine own_go (T' := T135) (f' := (mkF m 100 #[.val (.ref oa), .val (.int xa), .val (.int (15 : Int32)), .val (.int (own_v10_87 xa)), .val (.int (own_v10_57 xa LS))] [(.int (4 : Int32)), (.int nd)])) ?_ (own_len X135 hx hZ e135 fa27 (g := (mkF m 99 #[.val (.ref oa), .val (.int xa), .val (.int (15 : Int32)), .val (.int (own_v10_87 xa)), .val (.int (own_v10_57 xa LS))] [(.ref oe), (.int nd)])) rfl rfl (hb hby own_d10_99))
          have hk100_136 : ¬ (nd = (4 : Int32)) := (own_nd4 hv hb_)
          refine own_go (T' := T135) (f' := (mkF m 154 #[.val (.ref oa), .val (.int xa), .val (.int (15 : Int32)), .val (.int (own_v10_87 xa)), .val (.int (own_v10_57 xa LS))] [])) ?_ (fun _ k => XS.icmpYes X135.here hx rfl (pc0 := 100) (pc' := 154) rfl (hb hby own_d10_100) rfl (feq hk100_136).2 (by decide) (by decide) k)
          refine own_go (T' := T135) (f' := (mkF m 155 #[.val (.ref oa), .val (.int xa), .val (.int (15 : Int32)), .val (.int (own_v10_87 xa)), .val (.int (own_v10_57 xa LS))] [(.ref oa)])) ?_ (fun _ k => XS.aloadN X135.here hx rfl (hb hby own_d10_154) rfl rfl k)
          obtain ⟨T137, X137, e137, st137⟩ := getF X135 hx hZ hown (host := "") (Or.inl (hw _ (List.mem_of_getElem? (i := 10) rfl))) Via.refl e135 fa20 (g := (mkF m 155 #[.val (.ref oa), .val (.int xa), .val (.int (15 : Int32)), .val (.int (own_v10_87 xa)), .val (.int (own_v10_57 xa LS))] [(.ref oa)])) rfl rfl (hb hby own_d10_155)
          refine own_go (T' := T137) (f' := (mkF m 158 #[.val (.ref oa), .val (.int xa), .val (.int (15 : Int32)), .val (.int (own_v10_87 xa)), .val (.int (own_v10_57 xa LS))] [(.ref oe)])) ?_ (st137)
          refine own_go (T' := T137) (f' := (mkF m 159 #[.val (.ref oa), .val (.int xa), .val (.int (15 : Int32)), .val (.int (own_v10_87 xa)), .val (.int (own_v10_57 xa LS))] [(.ref oa), (.ref oe)])) ?_ (fun _ k => XS.aloadN X137.here hx rfl (hb hby own_d10_158) rfl rfl k)
          obtain ⟨T138, X138, e138, st138⟩ := getF X137 hx hZ hown (host := "") (Or.inl (hw _ (List.mem_of_getElem? (i := 24) rfl))) Via.refl e137 fa24 (g := (mkF m 159 #[.val (.ref oa), .val (.int xa), .val (.int (15 : Int32)), .val (.int (own_v10_87 xa)), .val (.int (own_v10_57 xa LS))] [(.ref oa), (.ref oe)])) rfl rfl (hb hby own_d10_159)
          refine own_go (T' := T138) (f' := (mkF m 162 #[.val (.ref oa), .val (.int xa), .val (.int (15 : Int32)), .val (.int (own_v10_87 xa)), .val (.int (own_v10_57 xa LS))] [(.int nd), (.ref oe)])) ?_ (st138)
          refine own_go (T' := T138) (f' := (mkF m 163 #[.val (.ref oa), .val (.int xa), .val (.int (15 : Int32)), .val (.int (own_v10_87 xa)), .val (.int (own_v10_57 xa LS))] [(.int xa), (.int nd), (.ref oe)])) ?_ (fun _ k => XS.iloadN X138.here hx rfl (hb hby own_d10_162) rfl  k)
          obtain ⟨T139, h139, X139, e139, W139, F139, st139⟩ := own_stI X138 hx hZ e138 fa27 (j := nd) (own_ndi hv hb_) (g := (mkF m 163 #[.val (.ref oa), .val (.int xa), .val (.int (15 : Int32)), .val (.int (own_v10_87 xa)), .val (.int (own_v10_57 xa LS))] [(.int xa), (.int nd), (.ref oe)])) rfl rfl (hb hby own_d10_163)
          have fa140 := fa19.wr W139
          have fa141 := fa20.other W139 (Or.inl ne_oa_oe)
          have fa142 := fa21.other W139 (Or.inl ne_oa_oe)
          have fa143 := fa22.other W139 (Or.inl ne_oa_oe)
          have fa144 := fa23.other W139 (Or.inl ne_oa_oe)
          have fa145 := fa24.other W139 (Or.inl ne_oa_oe)
          have fa146 := fa26.other W139 (Or.inl ne_oa_oe)
          have fa148 := fa28.other W139 (Ne.symm ne_oe_oc)
          have fa149 := fa29.other W139 (Ne.symm ne_oe_oo)
          have fa150 := fa30.other W139 (Ne.symm ne_oe_os)
          have fa151 := Fw18.other W139 (Or.inl ne_oa_oe)
          have Fw139 : own_AI Z h139 oe .int (4 : Int32) (LE.set (nd).toNatClampNeg xa) := F139
          have N139 := Fr.snoc X139 N18 g_oe
          have KK139 : Keep h0 h139 [oa, oe, oc, oo, os] := KK18.wr W139 (Or.inl (List.mem_of_getElem? (i := 1) rfl))
          have ZZ139 : n0 ≤ h139.size := Nat.le_trans ZZ18 (Keep.of_wr W139).1
          refine own_go (T' := T139) (f' := (mkF m 164 #[.val (.ref oa), .val (.int xa), .val (.int (15 : Int32)), .val (.int (own_v10_87 xa)), .val (.int (own_v10_57 xa LS))] [])) ?_ (st139)
          refine own_go (T' := T139) (f' := (mkF m 165 #[.val (.ref oa), .val (.int xa), .val (.int (15 : Int32)), .val (.int (own_v10_87 xa)), .val (.int (own_v10_57 xa LS))] [(.ref oa)])) ?_ (fun _ k => XS.aloadN X139.here hx rfl (hb hby own_d10_164) rfl rfl k)
          obtain ⟨T152, X152, e152, st152⟩ := getF X139 hx hZ hown (host := "") (Or.inl (hw _ (List.mem_of_getElem? (i := 13) rfl))) Via.refl e139 fa142 (g := (mkF m 165 #[.val (.ref oa), .val (.int xa), .val (.int (15 : Int32)), .val (.int (own_v10_87 xa)), .val (.int (own_v10_57 xa LS))] [(.ref oa)])) rfl rfl (hb hby own_d10_165)
          refine own_go (T' := T152) (f' := (mkF m 168 #[.val (.ref oa), .val (.int xa), .val (.int (15 : Int32)), .val (.int (own_v10_87 xa)), .val (.int (own_v10_57 xa LS))] [(.ref oc)])) ?_ (st152)
          refine own_go (T' := T152) (f' := (mkF m 169 #[.val (.ref oa), .val (.int xa), .val (.int (15 : Int32)), .val (.int (own_v10_87 xa)), .val (.int (own_v10_57 xa LS))] [(.ref oa), (.ref oc)])) ?_ (fun _ k => XS.aloadN X152.here hx rfl (hb hby own_d10_168) rfl rfl k)
          obtain ⟨T153, X153, e153, st153⟩ := getF X152 hx hZ hown (host := "") (Or.inl (hw _ (List.mem_of_getElem? (i := 24) rfl))) Via.refl e152 fa145 (g := (mkF m 169 #[.val (.ref oa), .val (.int xa), .val (.int (15 : Int32)), .val (.int (own_v10_87 xa)), .val (.int (own_v10_57 xa LS))] [(.ref oa), (.ref oc)])) rfl rfl (hb hby own_d10_169)
          refine own_go (T' := T153) (f' := (mkF m 172 #[.val (.ref oa), .val (.int xa), .val (.int (15 : Int32)), .val (.int (own_v10_87 xa)), .val (.int (own_v10_57 xa LS))] [(.int nd), (.ref oc)])) ?_ (st153)
          refine own_go (T' := T153) (f' := (mkF m 173 #[.val (.ref oa), .val (.int xa), .val (.int (15 : Int32)), .val (.int (own_v10_87 xa)), .val (.int (own_v10_57 xa LS))] [(.long (1 : Int64)), (.int nd), (.ref oc)])) ?_ (fun _ k => XS.lconst X153.here hx rfl (hb hby own_d10_172) k)
          obtain ⟨T154, h154, X154, e154, W154, F154, st154⟩ := own_stJ X153 hx hZ e153 fa148 (j := nd) (own_ndi hv hb_) (g := (mkF m 173 #[.val (.ref oa), .val (.int xa), .val (.int (15 : Int32)), .val (.int (own_v10_87 xa)), .val (.int (own_v10_57 xa LS))] [(.long (1 : Int64)), (.int nd), (.ref oc)])) rfl rfl (hb hby own_d10_173)
          have fa155 := fa140.wr W154
          have fa156 := fa141.other W154 (Or.inl ne_oa_oc)
          have fa157 := fa142.other W154 (Or.inl ne_oa_oc)
          have fa158 := fa143.other W154 (Or.inl ne_oa_oc)
          have fa159 := fa144.other W154 (Or.inl ne_oa_oc)
          have fa160 := fa145.other W154 (Or.inl ne_oa_oc)
          have fa161 := fa146.other W154 (Or.inl ne_oa_oc)
          have fa163 := fa149.other W154 (Ne.symm ne_oc_oo)
          have fa164 := fa150.other W154 (Ne.symm ne_oc_os)
          have fa165 := fa151.other W154 (Or.inl ne_oa_oc)
          have fa166 := Fw139.other W154 ne_oe_oc
          have Fw154 : own_AJ Z h154 oc (4 : Int32) (LC.set (nd).toNatClampNeg (1 : Int64)) := F154
          have N154 := Fr.snoc X154 N139 g_oc
          have KK154 : Keep h0 h154 [oa, oe, oc, oo, os] := KK139.wr W154 (Or.inl (List.mem_of_getElem? (i := 2) rfl))
          have ZZ154 : n0 ≤ h154.size := Nat.le_trans ZZ139 (Keep.of_wr W154).1
          refine own_go (T' := T154) (f' := (mkF m 174 #[.val (.ref oa), .val (.int xa), .val (.int (15 : Int32)), .val (.int (own_v10_87 xa)), .val (.int (own_v10_57 xa LS))] [])) ?_ (st154)
          refine own_go (T' := T154) (f' := (mkF m 175 #[.val (.ref oa), .val (.int xa), .val (.int (15 : Int32)), .val (.int (own_v10_87 xa)), .val (.int (own_v10_57 xa LS))] [(.ref oa)])) ?_ (fun _ k => XS.aloadN X154.here hx rfl (hb hby own_d10_174) rfl rfl k)
          obtain ⟨T167, X167, e167, st167⟩ := getF X154 hx hZ hown (host := "") (Or.inl (hw _ (List.mem_of_getElem? (i := 15) rfl))) Via.refl e154 fa158 (g := (mkF m 175 #[.val (.ref oa), .val (.int xa), .val (.int (15 : Int32)), .val (.int (own_v10_87 xa)), .val (.int (own_v10_57 xa LS))] [(.ref oa)])) rfl rfl (hb hby own_d10_175)
          refine own_go (T' := T167) (f' := (mkF m 178 #[.val (.ref oa), .val (.int xa), .val (.int (15 : Int32)), .val (.int (own_v10_87 xa)), .val (.int (own_v10_57 xa LS))] [(.ref oo)])) ?_ (st167)
          refine own_go (T' := T167) (f' := (mkF m 179 #[.val (.ref oa), .val (.int xa), .val (.int (15 : Int32)), .val (.int (own_v10_87 xa)), .val (.int (own_v10_57 xa LS))] [(.ref oa), (.ref oo)])) ?_ (fun _ k => XS.aloadN X167.here hx rfl (hb hby own_d10_178) rfl rfl k)
          obtain ⟨T168, X168, e168, st168⟩ := getF X167 hx hZ hown (host := "") (Or.inl (hw _ (List.mem_of_getElem? (i := 24) rfl))) Via.refl e167 fa160 (g := (mkF m 179 #[.val (.ref oa), .val (.int xa), .val (.int (15 : Int32)), .val (.int (own_v10_87 xa)), .val (.int (own_v10_57 xa LS))] [(.ref oa), (.ref oo)])) rfl rfl (hb hby own_d10_179)
          refine own_go (T' := T168) (f' := (mkF m 182 #[.val (.ref oa), .val (.int xa), .val (.int (15 : Int32)), .val (.int (own_v10_87 xa)), .val (.int (own_v10_57 xa LS))] [(.int nd), (.ref oo)])) ?_ (st168)
          refine own_go (T' := T168) (f' := (mkF m 183 #[.val (.ref oa), .val (.int xa), .val (.int (15 : Int32)), .val (.int (own_v10_87 xa)), .val (.int (own_v10_57 xa LS))] [(.int (own_v10_87 xa)), (.int nd), (.ref oo)])) ?_ (fun _ k => XS.iloadN X168.here hx rfl (hb hby own_d10_182) rfl  k)
          obtain ⟨T169, h169, X169, e169, W169, F169, st169⟩ := own_stI X168 hx hZ e168 fa163 (j := nd) (own_ndi hv hb_) (g := (mkF m 183 #[.val (.ref oa), .val (.int xa), .val (.int (15 : Int32)), .val (.int (own_v10_87 xa)), .val (.int (own_v10_57 xa LS))] [(.int (own_v10_87 xa)), (.int nd), (.ref oo)])) rfl rfl (hb hby own_d10_183)
          have fa170 := fa155.wr W169
          have fa171 := fa156.other W169 (Or.inl ne_oa_oo)
          have fa172 := fa157.other W169 (Or.inl ne_oa_oo)
          have fa173 := fa158.other W169 (Or.inl ne_oa_oo)
          have fa174 := fa159.other W169 (Or.inl ne_oa_oo)
          have fa175 := fa160.other W169 (Or.inl ne_oa_oo)
          have fa176 := fa161.other W169 (Or.inl ne_oa_oo)
          have fa178 := fa164.other W169 (Ne.symm ne_oo_os)
          have fa179 := fa165.other W169 (Or.inl ne_oa_oo)
          have fa180 := fa166.other W169 ne_oe_oo
          have fa181 := Fw154.other W169 ne_oc_oo
          have Fw169 : own_AI Z h169 oo .int (4 : Int32) (LO.set (nd).toNatClampNeg (own_v10_87 xa)) := F169
          have N169 := Fr.snoc X169 N154 g_oo
          have KK169 : Keep h0 h169 [oa, oe, oc, oo, os] := KK154.wr W169 (Or.inl (List.mem_of_getElem? (i := 3) rfl))
          have ZZ169 : n0 ≤ h169.size := Nat.le_trans ZZ154 (Keep.of_wr W169).1
          refine own_go (T' := T169) (f' := (mkF m 184 #[.val (.ref oa), .val (.int xa), .val (.int (15 : Int32)), .val (.int (own_v10_87 xa)), .val (.int (own_v10_57 xa LS))] [])) ?_ (st169)
          refine own_go (T' := T169) (f' := (mkF m 185 #[.val (.ref oa), .val (.int xa), .val (.int (15 : Int32)), .val (.int (own_v10_87 xa)), .val (.int (own_v10_57 xa LS))] [(.ref oa)])) ?_ (fun _ k => XS.aloadN X169.here hx rfl (hb hby own_d10_184) rfl rfl k)
          obtain ⟨T182, X182, e182, st182⟩ := getF X169 hx hZ hown (host := "") (Or.inl (hw _ (List.mem_of_getElem? (i := 17) rfl))) Via.refl e169 fa174 (g := (mkF m 185 #[.val (.ref oa), .val (.int xa), .val (.int (15 : Int32)), .val (.int (own_v10_87 xa)), .val (.int (own_v10_57 xa LS))] [(.ref oa)])) rfl rfl (hb hby own_d10_185)
          refine own_go (T' := T182) (f' := (mkF m 188 #[.val (.ref oa), .val (.int xa), .val (.int (15 : Int32)), .val (.int (own_v10_87 xa)), .val (.int (own_v10_57 xa LS))] [(.ref os)])) ?_ (st182)
          refine own_go (T' := T182) (f' := (mkF m 189 #[.val (.ref oa), .val (.int xa), .val (.int (15 : Int32)), .val (.int (own_v10_87 xa)), .val (.int (own_v10_57 xa LS))] [(.int (own_v10_87 xa)), (.ref os)])) ?_ (fun _ k => XS.iloadN X182.here hx rfl (hb hby own_d10_188) rfl  k)
          refine own_go (T' := T182) (f' := (mkF m 190 #[.val (.ref oa), .val (.int xa), .val (.int (15 : Int32)), .val (.int (own_v10_87 xa)), .val (.int (own_v10_57 xa LS))] [(.ref oa), (.int (own_v10_87 xa)), (.ref os)])) ?_ (fun _ k => XS.aloadN X182.here hx rfl (hb hby own_d10_189) rfl rfl k)
          refine own_go (T' := T182) (f' := (mkF m 191 #[.val (.ref oa), .val (.int xa), .val (.int (15 : Int32)), .val (.int (own_v10_87 xa)), .val (.int (own_v10_57 xa LS))] [(.ref oa), (.ref oa), (.int (own_v10_87 xa)), (.ref os)])) ?_ (fun _ k => XS.dup X182.here hx rfl (hb hby own_d10_190) rfl rfl k)
          obtain ⟨T183, X183, e183, st183⟩ := getF X182 hx hZ hown (host := "") (Or.inl (hw _ (List.mem_of_getElem? (i := 24) rfl))) Via.refl e182 fa175 (g := (mkF m 191 #[.val (.ref oa), .val (.int xa), .val (.int (15 : Int32)), .val (.int (own_v10_87 xa)), .val (.int (own_v10_57 xa LS))] [(.ref oa), (.ref oa), (.int (own_v10_87 xa)), (.ref os)])) rfl rfl (hb hby own_d10_191)
          refine own_go (T' := T183) (f' := (mkF m 194 #[.val (.ref oa), .val (.int xa), .val (.int (15 : Int32)), .val (.int (own_v10_87 xa)), .val (.int (own_v10_57 xa LS))] [(.int nd), (.ref oa), (.int (own_v10_87 xa)), (.ref os)])) ?_ (st183)
          refine own_go (T' := T183) (f' := (mkF m 195 #[.val (.ref oa), .val (.int xa), .val (.int (15 : Int32)), .val (.int (own_v10_87 xa)), .val (.int (own_v10_57 xa LS))] [(.int (1 : Int32)), (.int nd), (.ref oa), (.int (own_v10_87 xa)), (.ref os)])) ?_ (fun _ k => XS.iconst X183.here hx rfl (hb hby own_d10_194) k)
          refine own_go (T' := T183) (f' := (mkF m 196 #[.val (.ref oa), .val (.int xa), .val (.int (15 : Int32)), .val (.int (own_v10_87 xa)), .val (.int (own_v10_57 xa LS))] [(.int (nd + (1 : Int32))), (.ref oa), (.int (own_v10_87 xa)), (.ref os)])) ?_ (fun _ k => XS.iadd X183.here hx rfl (hb hby own_d10_195) rfl k)
          refine own_go (T' := T183) (f' := (mkF m 197 #[.val (.ref oa), .val (.int xa), .val (.int (15 : Int32)), .val (.int (own_v10_87 xa)), .val (.int (own_v10_57 xa LS))] [(.int (nd + (1 : Int32))), (.ref oa), (.int (nd + (1 : Int32))), (.int (own_v10_87 xa)), (.ref os)])) ?_ (fun _ k => XS.dupX1 X183.here hx rfl (hb hby own_d10_196) rfl rfl rfl k)
          obtain ⟨T184, h184, X184, e184, W184, st184⟩ := putF X183 hx hZ hown (host := "") (Or.inl (hw _ (List.mem_of_getElem? (i := 24) rfl))) Via.refl e183 fa175 fa170 (Or.inl (hw _ (List.mem_of_getElem? (i := 25) rfl))) (hw _ (List.mem_of_getElem? (i := 1) rfl)) (ty := .int) (by decide) rfl rfl (g := (mkF m 197 #[.val (.ref oa), .val (.int xa), .val (.int (15 : Int32)), .val (.int (own_v10_87 xa)), .val (.int (own_v10_57 xa LS))] [(.int (nd + (1 : Int32))), (.ref oa), (.int (nd + (1 : Int32))), (.int (own_v10_87 xa)), (.ref os)])) rfl rfl (hb hby own_d10_197)
          have fa185 := fa170.wr W184
          have fa186 := fa171.other W184 (Or.inr (slot_ne (Or.inl (hw _ (List.mem_of_getElem? (i := 11) rfl))) (Or.inl (hw _ (List.mem_of_getElem? (i := 25) rfl))) (by decide) (t := (.array .int)) (t' := .int) (by decide) (by decide)))
          have fa187 := fa172.other W184 (Or.inr (slot_ne (Or.inl (hw _ (List.mem_of_getElem? (i := 14) rfl))) (Or.inl (hw _ (List.mem_of_getElem? (i := 25) rfl))) (by decide) (t := (.array .long)) (t' := .int) (by decide) (by decide)))
          have fa188 := fa173.other W184 (Or.inr (slot_ne (Or.inl (hw _ (List.mem_of_getElem? (i := 16) rfl))) (Or.inl (hw _ (List.mem_of_getElem? (i := 25) rfl))) (by decide) (t := (.array .int)) (t' := .int) (by decide) (by decide)))
          have fa189 := fa174.other W184 (Or.inr (slot_ne (Or.inl (hw _ (List.mem_of_getElem? (i := 18) rfl))) (Or.inl (hw _ (List.mem_of_getElem? (i := 25) rfl))) (by decide) (t := (.array .int)) (t' := .int) (by decide) (by decide)))
          have fa191 := fa176.other W184 (Or.inr (slot_ne (Or.inl (hw _ (List.mem_of_getElem? (i := 29) rfl))) (Or.inl (hw _ (List.mem_of_getElem? (i := 25) rfl))) (by decide) (t := .long) (t' := .int) (by decide) (by decide)))
          have fa192 := fa178.other W184 (Ne.symm ne_oa_os)
          have fa193 := fa179.other W184 (Or.inr (slot_ne (Or.inl (hw _ (List.mem_of_getElem? (i := 27) rfl))) (Or.inl (hw _ (List.mem_of_getElem? (i := 25) rfl))) (by decide) (t := .long) (t' := .int) (by decide) (by decide)))
          have fa194 := fa180.other W184 (Ne.symm ne_oa_oe)
          have fa195 := fa181.other W184 (Ne.symm ne_oa_oc)
          have fa196 := Fw169.other W184 (Ne.symm ne_oa_oo)
          have Fw184 := fa175.same W184
          have N184 := Fr.snoc X184 N169 g_oa
          have KK184 : Keep h0 h184 [oa, oe, oc, oo, os] := KK169.wr W184 (Or.inl (List.mem_of_getElem? (i := 0) rfl))
          have ZZ184 : n0 ≤ h184.size := Nat.le_trans ZZ169 (Keep.of_wr W184).1
          refine own_go (T' := T184) (f' := (mkF m 200 #[.val (.ref oa), .val (.int xa), .val (.int (15 : Int32)), .val (.int (own_v10_87 xa)), .val (.int (own_v10_57 xa LS))] [(.int (nd + (1 : Int32))), (.int (own_v10_87 xa)), (.ref os)])) ?_ (st184)
          obtain ⟨T197, h197, X197, e197, W197, F197, st197⟩ := own_stI X184 hx hZ e184 fa192 (j := (own_v10_87 xa)) (own_h15 _) (g := (mkF m 200 #[.val (.ref oa), .val (.int xa), .val (.int (15 : Int32)), .val (.int (own_v10_87 xa)), .val (.int (own_v10_57 xa LS))] [(.int (nd + (1 : Int32))), (.int (own_v10_87 xa)), (.ref os)])) rfl rfl (hb hby own_d10_200)
          have fa198 := fa185.wr W197
          have fa199 := fa186.other W197 (Or.inl ne_oa_os)
          have fa200 := fa187.other W197 (Or.inl ne_oa_os)
          have fa201 := fa188.other W197 (Or.inl ne_oa_os)
          have fa202 := fa189.other W197 (Or.inl ne_oa_os)
          have fa203 := fa191.other W197 (Or.inl ne_oa_os)
          have fa205 := fa193.other W197 (Or.inl ne_oa_os)
          have fa206 := fa194.other W197 ne_oe_os
          have fa207 := fa195.other W197 ne_oc_os
          have fa208 := fa196.other W197 ne_oo_os
          have fa209 := Fw184.other W197 (Or.inl ne_oa_os)
          have Fw197 : own_AI Z h197 os .int (16 : Int32) (LS.set ((own_v10_87 xa)).toNatClampNeg (nd + (1 : Int32))) := F197
          have N197 := Fr.snoc X197 N184 g_os
          have KK197 : Keep h0 h197 [oa, oe, oc, oo, os] := KK184.wr W197 (Or.inl (List.mem_of_getElem? (i := 4) rfl))
          have ZZ197 : n0 ≤ h197.size := Nat.le_trans ZZ184 (Keep.of_wr W197).1
          refine own_go (T' := T197) (f' := (mkF m 201 #[.val (.ref oa), .val (.int xa), .val (.int (15 : Int32)), .val (.int (own_v10_87 xa)), .val (.int (own_v10_57 xa LS))] [])) ?_ (st197)
          refine own_go (T' := T197) (f' := (mkF m 202 #[.val (.ref oa), .val (.int xa), .val (.int (15 : Int32)), .val (.int (own_v10_87 xa)), .val (.int (own_v10_57 xa LS))] [(.int (2 : Int32))])) ?_ (fun _ k => XS.iconst X197.here hx rfl (hb hby own_d10_201) k)
          refine own_go (T' := T197) (f' := (mkF m 203 #[.val (.ref oa), .val (.int xa), .val (.int (15 : Int32)), .val (.int (own_v10_87 xa)), .val (.int (own_v10_57 xa LS))] [(.ref oa), (.int (2 : Int32))])) ?_ (fun _ k => XS.aloadN X197.here hx rfl (hb hby own_d10_202) rfl rfl k)
          obtain ⟨T210, X210, e210, st210⟩ := getF X197 hx hZ hown (host := "") (Or.inl (hw _ (List.mem_of_getElem? (i := 24) rfl))) Via.refl e197 fa209 (g := (mkF m 203 #[.val (.ref oa), .val (.int xa), .val (.int (15 : Int32)), .val (.int (own_v10_87 xa)), .val (.int (own_v10_57 xa LS))] [(.ref oa), (.int (2 : Int32))])) rfl rfl (hb hby own_d10_203)
          refine own_go (T' := T210) (f' := (mkF m 206 #[.val (.ref oa), .val (.int xa), .val (.int (15 : Int32)), .val (.int (own_v10_87 xa)), .val (.int (own_v10_57 xa LS))] [(.int (nd + (1 : Int32))), (.int (2 : Int32))])) ?_ (st210)
          refine own_go (T' := T210) (f' := (mkF m 207 #[.val (.ref oa), .val (.int xa), .val (.int (15 : Int32)), .val (.int (own_v10_87 xa)), .val (.int (own_v10_57 xa LS))] [(.int ((2 : Int32) * (nd + (1 : Int32))))])) ?_ (fun _ k => XS.imul X210.here hx rfl (hb hby own_d10_206) rfl k)
          refine own_go (T' := T210) (f' := (mkF m 208 #[.val (.ref oa), .val (.int xa), .val (.int (15 : Int32)), .val (.int (own_v10_87 xa)), .val (.int (own_v10_57 xa LS))] [(.ref oa), (.int ((2 : Int32) * (nd + (1 : Int32))))])) ?_ (fun _ k => XS.aloadN X210.here hx rfl (hb hby own_d10_207) rfl rfl k)
          obtain ⟨T211, X211, e211, st211⟩ := getF X210 hx hZ hown (host := "") (Or.inl (hw _ (List.mem_of_getElem? (i := 17) rfl))) Via.refl e210 fa202 (g := (mkF m 208 #[.val (.ref oa), .val (.int xa), .val (.int (15 : Int32)), .val (.int (own_v10_87 xa)), .val (.int (own_v10_57 xa LS))] [(.ref oa), (.int ((2 : Int32) * (nd + (1 : Int32))))])) rfl rfl (hb hby own_d10_208)
          refine own_go (T' := T211) (f' := (mkF m 211 #[.val (.ref oa), .val (.int xa), .val (.int (15 : Int32)), .val (.int (own_v10_87 xa)), .val (.int (own_v10_57 xa LS))] [(.ref os), (.int ((2 : Int32) * (nd + (1 : Int32))))])) ?_ (st211)
          refine own_go (T' := T211) (f' := (mkF m 212 #[.val (.ref oa), .val (.int xa), .val (.int (15 : Int32)), .val (.int (own_v10_87 xa)), .val (.int (own_v10_57 xa LS))] [(.int (16 : Int32)), (.int ((2 : Int32) * (nd + (1 : Int32))))])) ?_ (own_len X211 hx hZ e211 Fw197 (g := (mkF m 211 #[.val (.ref oa), .val (.int xa), .val (.int (15 : Int32)), .val (.int (own_v10_87 xa)), .val (.int (own_v10_57 xa LS))] [(.ref os), (.int ((2 : Int32) * (nd + (1 : Int32))))])) rfl rfl (hb hby own_d10_211))
          have hk212_212 : ¬ ((16 : Int32) < ((2 : Int32) * (nd + (1 : Int32)))) := (own_nd16 hv hb_)
          refine own_go (T' := T211) (f' := (mkF m 219 #[.val (.ref oa), .val (.int xa), .val (.int (15 : Int32)), .val (.int (own_v10_87 xa)), .val (.int (own_v10_57 xa LS))] [])) ?_ (fun _ k => XS.icmpYes X211.here hx rfl (pc0 := 212) (pc' := 219) rfl (hb hby own_d10_212) rfl (flt hk212_212).2.2.2 (by decide) (by decide) k)
          obtain ⟨fs213, hr213, hrun213, hended213, hW213, hsame213⟩ := X211.leave (v := none) (fun _ => rfl)
          refine ⟨_, ⟨_, hrun213, hended213, _, _, rfl, ?_, ⟨_, rfl⟩, hW213, hsame213.mono (by decide) (by decide)⟩, fun _ k => (X211.returnOut hx Bd.returns (hb hby own_d10_219) hr213).trans k⟩
          show own_Q10 Z oa xa oe oc oo os nd tt ig LE LC LO LS bb h0 n0 _ T211.heap _
          rw [e211]
          exact ⟨(nd + (1 : Int32)), (tt + (1 : Int64)), ig, (LE.set (nd).toNatClampNeg xa), (LC.set (nd).toNatClampNeg (1 : Int64)), (LO.set (nd).toNatClampNeg (own_v10_87 xa)), (LS.set ((own_v10_87 xa)).toNatClampNeg (nd + (1 : Int32))), rfl, N197, KK197, fa199, fa200, fa201, fa202, fa209, fa205, fa203, fa206, fa207, fa208, Fw197, (own_inv_ins hv hb_ hc46_133 (own_h15 _) A_oo A_os), (own_spec_far hc1_1 hc46_33 (own_h15 _))⟩
        · refine own_go (T' := T132) (f' := (mkF m 49 #[.val (.ref oa), .val (.int xa), .val (.int (15 : Int32)), .val (.int (own_v10_87 xa)), .val (.int (own_v10_57 xa LS))] [])) ?_ (fun _ k => XS.ifNo X132.here hx rfl (hb hby own_d10_46) rfl ((if0 _ _).trans (feq hc46_133).1) k)
          refine own_go (T' := T132) (f' := (mkF m 50 #[.val (.ref oa), .val (.int xa), .val (.int (15 : Int32)), .val (.int (own_v10_87 xa)), .val (.int (own_v10_57 xa LS))] [(.ref oa)])) ?_ (fun _ k => XS.aloadN X132.here hx rfl (hb hby own_d10_49) rfl rfl k)
          obtain ⟨T214, X214, e214, st214⟩ := getF X132 hx hZ hown (host := "") (Or.inl (hw _ (List.mem_of_getElem? (i := 17) rfl))) Via.refl e132 fa23 (g := (mkF m 50 #[.val (.ref oa), .val (.int xa), .val (.int (15 : Int32)), .val (.int (own_v10_87 xa)), .val (.int (own_v10_57 xa LS))] [(.ref oa)])) rfl rfl (hb hby own_d10_50)
          refine own_go (T' := T214) (f' := (mkF m 53 #[.val (.ref oa), .val (.int xa), .val (.int (15 : Int32)), .val (.int (own_v10_87 xa)), .val (.int (own_v10_57 xa LS))] [(.ref os)])) ?_ (st214)
          refine own_go (T' := T214) (f' := (mkF m 54 #[.val (.ref oa), .val (.int xa), .val (.int (15 : Int32)), .val (.int (own_v10_87 xa)), .val (.int (own_v10_57 xa LS))] [(.int (own_v10_87 xa)), (.ref os)])) ?_ (fun _ k => XS.iloadN X214.here hx rfl (hb hby own_d10_53) rfl  k)
          refine own_go (T' := T214) (f' := (mkF m 55 #[.val (.ref oa), .val (.int xa), .val (.int (15 : Int32)), .val (.int (own_v10_87 xa)), .val (.int (own_v10_57 xa LS))] [(.int (LS.getD ((own_v10_87 xa)).toNatClampNeg 0))])) ?_ (own_ldI X214 hx hZ e214 fa30 (j := (own_v10_87 xa)) (own_h15 _) (g := (mkF m 54 #[.val (.ref oa), .val (.int xa), .val (.int (15 : Int32)), .val (.int (own_v10_87 xa)), .val (.int (own_v10_57 xa LS))] [(.int (own_v10_87 xa)), (.ref os)])) rfl rfl (hb hby own_d10_54))
          refine own_go (T' := T214) (f' := (mkF m 56 #[.val (.ref oa), .val (.int xa), .val (.int (15 : Int32)), .val (.int (own_v10_87 xa)), .val (.int (own_v10_57 xa LS))] [(.int (1 : Int32)), (.int (LS.getD ((own_v10_87 xa)).toNatClampNeg 0))])) ?_ (fun _ k => XS.iconst X214.here hx rfl (hb hby own_d10_55) k)
          refine own_go (T' := T214) (f' := (mkF m 57 #[.val (.ref oa), .val (.int xa), .val (.int (15 : Int32)), .val (.int (own_v10_87 xa)), .val (.int (own_v10_57 xa LS))] [(.int ((LS.getD ((own_v10_87 xa)).toNatClampNeg 0) - (1 : Int32)))])) ?_ (fun _ k => XS.isub X214.here hx rfl (hb hby own_d10_56) rfl k)
          refine own_go (T' := T214) (f' := (mkF m 59 #[.val (.ref oa), .val (.int xa), .val (.int (15 : Int32)), .val (.int (own_v10_87 xa)), .val (.int (own_v10_57_2 xa LS))] [])) ?_ (fun _ k => XS.istore X214.here hx rfl (hb hby own_d10_57) rfl (l' := #[.val (.ref oa), .val (.int xa), .val (.int (15 : Int32)), .val (.int (own_v10_87 xa)), .val (.int (own_v10_57_2 xa LS))]) rfl k)
          refine own_go (T' := T214) (f' := (mkF m 60 #[.val (.ref oa), .val (.int xa), .val (.int (15 : Int32)), .val (.int (own_v10_87 xa)), .val (.int (own_v10_57_2 xa LS))] [(.ref oa)])) ?_ (fun _ k => XS.aloadN X214.here hx rfl (hb hby own_d10_59) rfl rfl k)
          obtain ⟨T215, X215, e215, st215⟩ := getF X214 hx hZ hown (host := "") (Or.inl (hw _ (List.mem_of_getElem? (i := 10) rfl))) Via.refl e214 fa20 (g := (mkF m 60 #[.val (.ref oa), .val (.int xa), .val (.int (15 : Int32)), .val (.int (own_v10_87 xa)), .val (.int (own_v10_57_2 xa LS))] [(.ref oa)])) rfl rfl (hb hby own_d10_60)
          refine own_go (T' := T215) (f' := (mkF m 63 #[.val (.ref oa), .val (.int xa), .val (.int (15 : Int32)), .val (.int (own_v10_87 xa)), .val (.int (own_v10_57_2 xa LS))] [(.ref oe)])) ?_ (st215)
          refine own_go (T' := T215) (f' := (mkF m 65 #[.val (.ref oa), .val (.int xa), .val (.int (15 : Int32)), .val (.int (own_v10_87 xa)), .val (.int (own_v10_57_2 xa LS))] [(.int (own_v10_57_2 xa LS)), (.ref oe)])) ?_ (fun _ k => XS.iload X215.here hx rfl (hb hby own_d10_63) rfl  k)
          refine own_go (T' := T215) (f' := (mkF m 66 #[.val (.ref oa), .val (.int xa), .val (.int (15 : Int32)), .val (.int (own_v10_87 xa)), .val (.int (own_v10_57_2 xa LS))] [(.int (LE.getD ((own_v10_57_2 xa LS)).toNatClampNeg 0))])) ?_ (own_ldI X215 hx hZ e215 fa27 (j := (own_v10_57_2 xa LS)) (own_slot hv hb_ hc46_133 (own_h15 _)) (g := (mkF m 65 #[.val (.ref oa), .val (.int xa), .val (.int (15 : Int32)), .val (.int (own_v10_87 xa)), .val (.int (own_v10_57_2 xa LS))] [(.int (own_v10_57_2 xa LS)), (.ref oe)])) rfl rfl (hb hby own_d10_65))
          refine own_go (T' := T215) (f' := (mkF m 67 #[.val (.ref oa), .val (.int xa), .val (.int (15 : Int32)), .val (.int (own_v10_87 xa)), .val (.int (own_v10_57_2 xa LS))] [(.int xa), (.int (LE.getD ((own_v10_57_2 xa LS)).toNatClampNeg 0))])) ?_ (fun _ k => XS.iloadN X215.here hx rfl (hb hby own_d10_66) rfl  k)
          by_cases hc67_216 : (LE.getD ((own_v10_57_2 xa LS)).toNatClampNeg 0) = xa
          · refine own_go (T' := T215) (f' := (mkF m 70 #[.val (.ref oa), .val (.int xa), .val (.int (15 : Int32)), .val (.int (own_v10_87 xa)), .val (.int (own_v10_57_2 xa LS))] [])) ?_ (fun _ k => XS.icmpNo X215.here hx rfl (hb hby own_d10_67) rfl (teq hc67_216).2 k)
            refine own_go (T' := T215) (f' := (mkF m 71 #[.val (.ref oa), .val (.int xa), .val (.int (15 : Int32)), .val (.int (own_v10_87 xa)), .val (.int (own_v10_57_2 xa LS))] [(.ref oa)])) ?_ (fun _ k => XS.aloadN X215.here hx rfl (hb hby own_d10_70) rfl rfl k)
            obtain ⟨T217, X217, e217, st217⟩ := getF X215 hx hZ hown (host := "") (Or.inl (hw _ (List.mem_of_getElem? (i := 13) rfl))) Via.refl e215 fa21 (g := (mkF m 71 #[.val (.ref oa), .val (.int xa), .val (.int (15 : Int32)), .val (.int (own_v10_87 xa)), .val (.int (own_v10_57_2 xa LS))] [(.ref oa)])) rfl rfl (hb hby own_d10_71)
            refine own_go (T' := T217) (f' := (mkF m 74 #[.val (.ref oa), .val (.int xa), .val (.int (15 : Int32)), .val (.int (own_v10_87 xa)), .val (.int (own_v10_57_2 xa LS))] [(.ref oc)])) ?_ (st217)
            refine own_go (T' := T217) (f' := (mkF m 76 #[.val (.ref oa), .val (.int xa), .val (.int (15 : Int32)), .val (.int (own_v10_87 xa)), .val (.int (own_v10_57_2 xa LS))] [(.int (own_v10_57_2 xa LS)), (.ref oc)])) ?_ (fun _ k => XS.iload X217.here hx rfl (hb hby own_d10_74) rfl  k)
            refine own_go (T' := T217) (f' := (mkF m 77 #[.val (.ref oa), .val (.int xa), .val (.int (15 : Int32)), .val (.int (own_v10_87 xa)), .val (.int (own_v10_57_2 xa LS))] [(.int (own_v10_57_2 xa LS)), (.ref oc), (.int (own_v10_57_2 xa LS)), (.ref oc)])) ?_ (fun _ k => Jvm.Free.XT.dup2 X217.here hx rfl (hb hby own_d10_76) rfl rfl rfl k)
            refine own_go (T' := T217) (f' := (mkF m 78 #[.val (.ref oa), .val (.int xa), .val (.int (15 : Int32)), .val (.int (own_v10_87 xa)), .val (.int (own_v10_57_2 xa LS))] [(.long (LC.getD ((own_v10_57_2 xa LS)).toNatClampNeg (0 : Int64))), (.int (own_v10_57_2 xa LS)), (.ref oc)])) ?_ (own_ldJ X217 hx hZ e217 fa28 (j := (own_v10_57_2 xa LS)) (own_slot hv hb_ hc46_133 (own_h15 _)) (g := (mkF m 77 #[.val (.ref oa), .val (.int xa), .val (.int (15 : Int32)), .val (.int (own_v10_87 xa)), .val (.int (own_v10_57_2 xa LS))] [(.int (own_v10_57_2 xa LS)), (.ref oc), (.int (own_v10_57_2 xa LS)), (.ref oc)])) rfl rfl (hb hby own_d10_77))
            refine own_go (T' := T217) (f' := (mkF m 79 #[.val (.ref oa), .val (.int xa), .val (.int (15 : Int32)), .val (.int (own_v10_87 xa)), .val (.int (own_v10_57_2 xa LS))] [(.long (1 : Int64)), (.long (LC.getD ((own_v10_57_2 xa LS)).toNatClampNeg (0 : Int64))), (.int (own_v10_57_2 xa LS)), (.ref oc)])) ?_ (fun _ k => XS.lconst X217.here hx rfl (hb hby own_d10_78) k)
            refine own_go (T' := T217) (f' := (mkF m 80 #[.val (.ref oa), .val (.int xa), .val (.int (15 : Int32)), .val (.int (own_v10_87 xa)), .val (.int (own_v10_57_2 xa LS))] [(.long ((LC.getD ((own_v10_57_2 xa LS)).toNatClampNeg (0 : Int64)) + (1 : Int64))), (.int (own_v10_57_2 xa LS)), (.ref oc)])) ?_ (fun _ k => XS.ladd X217.here hx rfl (hb hby own_d10_79) rfl k)
            obtain ⟨T218, h218, X218, e218, W218, F218, st218⟩ := own_stJ X217 hx hZ e217 fa28 (j := (own_v10_57_2 xa LS)) (own_slot hv hb_ hc46_133 (own_h15 _)) (g := (mkF m 80 #[.val (.ref oa), .val (.int xa), .val (.int (15 : Int32)), .val (.int (own_v10_87 xa)), .val (.int (own_v10_57_2 xa LS))] [(.long ((LC.getD ((own_v10_57_2 xa LS)).toNatClampNeg (0 : Int64)) + (1 : Int64))), (.int (own_v10_57_2 xa LS)), (.ref oc)])) rfl rfl (hb hby own_d10_80)
            have fa219 := fa19.wr W218
            have fa220 := fa20.other W218 (Or.inl ne_oa_oc)
            have fa221 := fa21.other W218 (Or.inl ne_oa_oc)
            have fa222 := fa22.other W218 (Or.inl ne_oa_oc)
            have fa223 := fa23.other W218 (Or.inl ne_oa_oc)
            have fa224 := fa24.other W218 (Or.inl ne_oa_oc)
            have fa225 := fa26.other W218 (Or.inl ne_oa_oc)
            have fa226 := fa27.other W218 ne_oe_oc
            have fa228 := fa29.other W218 (Ne.symm ne_oc_oo)
            have fa229 := fa30.other W218 (Ne.symm ne_oc_os)
            have fa230 := Fw18.other W218 (Or.inl ne_oa_oc)
            have Fw218 : own_AJ Z h218 oc (4 : Int32) (LC.set ((own_v10_57_2 xa LS)).toNatClampNeg (own_v10_80_2 xa LC LS)) := F218
            have N218 := Fr.snoc X218 N18 g_oc
            have KK218 : Keep h0 h218 [oa, oe, oc, oo, os] := KK18.wr W218 (Or.inl (List.mem_of_getElem? (i := 2) rfl))
            have ZZ218 : n0 ≤ h218.size := Nat.le_trans ZZ18 (Keep.of_wr W218).1
            refine own_go (T' := T218) (f' := (mkF m 81 #[.val (.ref oa), .val (.int xa), .val (.int (15 : Int32)), .val (.int (own_v10_87 xa)), .val (.int (own_v10_57_2 xa LS))] [])) ?_ (st218)
            obtain ⟨fs231, hr231, hrun231, hended231, hW231, hsame231⟩ := X218.leave (v := none) (fun _ => rfl)
            refine ⟨_, ⟨_, hrun231, hended231, _, _, rfl, ?_, ⟨_, rfl⟩, hW231, hsame231.mono (by decide) (by decide)⟩, fun _ k => (X218.returnOut hx Bd.returns (hb hby own_d10_81) hr231).trans k⟩
            show own_Q10 Z oa xa oe oc oo os nd tt ig LE LC LO LS bb h0 n0 _ T218.heap _
            rw [e218]
            exact ⟨nd, (tt + (1 : Int64)), ig, LE, (LC.set ((own_v10_57_2 xa LS)).toNatClampNeg (own_v10_80_2 xa LC LS)), LO, LS, rfl, N218, KK218, fa220, fa221, fa222, fa223, fa224, fa230, fa225, fa226, Fw218, fa228, fa229, (own_inv_mono hv), (own_spec_far hc1_1 hc46_33 (own_h15 _))⟩
          · refine own_go (T' := T215) (f' := (mkF m 82 #[.val (.ref oa), .val (.int xa), .val (.int (15 : Int32)), .val (.int (own_v10_87 xa)), .val (.int (own_v10_57_2 xa LS))] [])) ?_ (fun _ k => XS.icmpYes X215.here hx rfl (pc0 := 67) (pc' := 82) rfl (hb hby own_d10_67) rfl (feq hc67_216).2 (by decide) (by decide) k)
            refine own_go (T' := T215) (f' := (mkF m 83 #[.val (.ref oa), .val (.int xa), .val (.int (15 : Int32)), .val (.int (own_v10_87 xa)), .val (.int (own_v10_57_2 xa LS))] [(.int (own_v10_87 xa))])) ?_ (fun _ k => XS.iloadN X215.here hx rfl (hb hby own_d10_82) rfl  k)
            refine own_go (T' := T215) (f' := (mkF m 84 #[.val (.ref oa), .val (.int xa), .val (.int (15 : Int32)), .val (.int (own_v10_87 xa)), .val (.int (own_v10_57_2 xa LS))] [(.int (1 : Int32)), (.int (own_v10_87 xa))])) ?_ (fun _ k => XS.iconst X215.here hx rfl (hb hby own_d10_83) k)
            refine own_go (T' := T215) (f' := (mkF m 85 #[.val (.ref oa), .val (.int xa), .val (.int (15 : Int32)), .val (.int (own_v10_87 xa)), .val (.int (own_v10_57_2 xa LS))] [(.int ((own_v10_87 xa) + (1 : Int32)))])) ?_ (fun _ k => XS.iadd X215.here hx rfl (hb hby own_d10_84) rfl k)
            refine own_go (T' := T215) (f' := (mkF m 86 #[.val (.ref oa), .val (.int xa), .val (.int (15 : Int32)), .val (.int (own_v10_87 xa)), .val (.int (own_v10_57_2 xa LS))] [(.int (15 : Int32)), (.int ((own_v10_87 xa) + (1 : Int32)))])) ?_ (fun _ k => XS.iloadN X215.here hx rfl (hb hby own_d10_85) rfl  k)
            refine own_go (T' := T215) (f' := (mkF m 87 #[.val (.ref oa), .val (.int xa), .val (.int (15 : Int32)), .val (.int (own_v10_87 xa)), .val (.int (own_v10_57_2 xa LS))] [(.int (((own_v10_87 xa) + (1 : Int32)) &&& (15 : Int32)))])) ?_ (fun _ k => XS.iand X215.here hx rfl (hb hby own_d10_86) rfl k)
            refine own_go (T' := T215) (f' := (mkF m 88 #[.val (.ref oa), .val (.int xa), .val (.int (15 : Int32)), .val (.int (own_v10_87_2 xa)), .val (.int (own_v10_57_2 xa LS))] [])) ?_ (fun _ k => XS.istoreN X215.here hx rfl (hb hby own_d10_87) rfl (l' := #[.val (.ref oa), .val (.int xa), .val (.int (15 : Int32)), .val (.int (own_v10_87_2 xa)), .val (.int (own_v10_57_2 xa LS))]) rfl k)
            refine own_go (T' := T215) (f' := (mkF m 40 #[.val (.ref oa), .val (.int xa), .val (.int (15 : Int32)), .val (.int (own_v10_87_2 xa)), .val (.int (own_v10_57_2 xa LS))] [])) ?_ (fun _ k => XS.goto X215.here hx rfl (pc0 := 88) (pc' := 40) rfl (hb hby own_d10_88) (by decide) (by decide) k)
            refine own_go (T' := T215) (f' := (mkF m 41 #[.val (.ref oa), .val (.int xa), .val (.int (15 : Int32)), .val (.int (own_v10_87_2 xa)), .val (.int (own_v10_57_2 xa LS))] [(.ref oa)])) ?_ (fun _ k => XS.aloadN X215.here hx rfl (hb hby own_d10_40) rfl rfl k)
            obtain ⟨T232, X232, e232, st232⟩ := getF X215 hx hZ hown (host := "") (Or.inl (hw _ (List.mem_of_getElem? (i := 17) rfl))) Via.refl e215 fa23 (g := (mkF m 41 #[.val (.ref oa), .val (.int xa), .val (.int (15 : Int32)), .val (.int (own_v10_87_2 xa)), .val (.int (own_v10_57_2 xa LS))] [(.ref oa)])) rfl rfl (hb hby own_d10_41)
            refine own_go (T' := T232) (f' := (mkF m 44 #[.val (.ref oa), .val (.int xa), .val (.int (15 : Int32)), .val (.int (own_v10_87_2 xa)), .val (.int (own_v10_57_2 xa LS))] [(.ref os)])) ?_ (st232)
            refine own_go (T' := T232) (f' := (mkF m 45 #[.val (.ref oa), .val (.int xa), .val (.int (15 : Int32)), .val (.int (own_v10_87_2 xa)), .val (.int (own_v10_57_2 xa LS))] [(.int (own_v10_87_2 xa)), (.ref os)])) ?_ (fun _ k => XS.iloadN X232.here hx rfl (hb hby own_d10_44) rfl  k)
            refine own_go (T' := T232) (f' := (mkF m 46 #[.val (.ref oa), .val (.int xa), .val (.int (15 : Int32)), .val (.int (own_v10_87_2 xa)), .val (.int (own_v10_57_2 xa LS))] [(.int (LS.getD ((own_v10_87_2 xa)).toNatClampNeg 0))])) ?_ (own_ldI X232 hx hZ e232 fa30 (j := (own_v10_87_2 xa)) (own_h15 _) (g := (mkF m 45 #[.val (.ref oa), .val (.int xa), .val (.int (15 : Int32)), .val (.int (own_v10_87_2 xa)), .val (.int (own_v10_57_2 xa LS))] [(.int (own_v10_87_2 xa)), (.ref os)])) rfl rfl (hb hby own_d10_45))
            by_cases hc46_233 : (LS.getD ((own_v10_87_2 xa)).toNatClampNeg 0) = (0 : Int32)
            · refine own_go (T' := T232) (f' := (mkF m 91 #[.val (.ref oa), .val (.int xa), .val (.int (15 : Int32)), .val (.int (own_v10_87_2 xa)), .val (.int (own_v10_57_2 xa LS))] [])) ?_ (fun _ k => XS.ifYes X232.here hx rfl (pc0 := 46) (pc' := 91) rfl (hb hby own_d10_46) rfl ((if0 _ _).trans (teq hc46_233).1) (by decide) (by decide) k)
              refine own_go (T' := T232) (f' := (mkF m 92 #[.val (.ref oa), .val (.int xa), .val (.int (15 : Int32)), .val (.int (own_v10_87_2 xa)), .val (.int (own_v10_57_2 xa LS))] [(.ref oa)])) ?_ (fun _ k => XS.aloadN X232.here hx rfl (hb hby own_d10_91) rfl rfl k)
              obtain ⟨T234, X234, e234, st234⟩ := getF X232 hx hZ hown (host := "") (Or.inl (hw _ (List.mem_of_getElem? (i := 24) rfl))) Via.refl e232 fa24 (g := (mkF m 92 #[.val (.ref oa), .val (.int xa), .val (.int (15 : Int32)), .val (.int (own_v10_87_2 xa)), .val (.int (own_v10_57_2 xa LS))] [(.ref oa)])) rfl rfl (hb hby own_d10_92)
              refine own_go (T' := T234) (f' := (mkF m 95 #[.val (.ref oa), .val (.int xa), .val (.int (15 : Int32)), .val (.int (own_v10_87_2 xa)), .val (.int (own_v10_57_2 xa LS))] [(.int nd)])) ?_ (st234)
              refine own_go (T' := T234) (f' := (mkF m 96 #[.val (.ref oa), .val (.int xa), .val (.int (15 : Int32)), .val (.int (own_v10_87_2 xa)), .val (.int (own_v10_57_2 xa LS))] [(.ref oa), (.int nd)])) ?_ (fun _ k => XS.aloadN X234.here hx rfl (hb hby own_d10_95) rfl rfl k)
              obtain ⟨T235, X235, e235, st235⟩ := getF X234 hx hZ hown (host := "") (Or.inl (hw _ (List.mem_of_getElem? (i := 10) rfl))) Via.refl e234 fa20 (g := (mkF m 96 #[.val (.ref oa), .val (.int xa), .val (.int (15 : Int32)), .val (.int (own_v10_87_2 xa)), .val (.int (own_v10_57_2 xa LS))] [(.ref oa), (.int nd)])) rfl rfl (hb hby own_d10_96)
              refine own_go (T' := T235) (f' := (mkF m 99 #[.val (.ref oa), .val (.int xa), .val (.int (15 : Int32)), .val (.int (own_v10_87_2 xa)), .val (.int (own_v10_57_2 xa LS))] [(.ref oe), (.int nd)])) ?_ (st235)
              refine own_go (T' := T235) (f' := (mkF m 100 #[.val (.ref oa), .val (.int xa), .val (.int (15 : Int32)), .val (.int (own_v10_87_2 xa)), .val (.int (own_v10_57_2 xa LS))] [(.int (4 : Int32)), (.int nd)])) ?_ (own_len X235 hx hZ e235 fa27 (g := (mkF m 99 #[.val (.ref oa), .val (.int xa), .val (.int (15 : Int32)), .val (.int (own_v10_87_2 xa)), .val (.int (own_v10_57_2 xa LS))] [(.ref oe), (.int nd)])) rfl rfl (hb hby own_d10_99))
              have hk100_236 : ¬ (nd = (4 : Int32)) := (own_nd4 hv hb_)
              refine own_go (T' := T235) (f' := (mkF m 154 #[.val (.ref oa), .val (.int xa), .val (.int (15 : Int32)), .val (.int (own_v10_87_2 xa)), .val (.int (own_v10_57_2 xa LS))] [])) ?_ (fun _ k => XS.icmpYes X235.here hx rfl (pc0 := 100) (pc' := 154) rfl (hb hby own_d10_100) rfl (feq hk100_236).2 (by decide) (by decide) k)
              refine own_go (T' := T235) (f' := (mkF m 155 #[.val (.ref oa), .val (.int xa), .val (.int (15 : Int32)), .val (.int (own_v10_87_2 xa)), .val (.int (own_v10_57_2 xa LS))] [(.ref oa)])) ?_ (fun _ k => XS.aloadN X235.here hx rfl (hb hby own_d10_154) rfl rfl k)
              obtain ⟨T237, X237, e237, st237⟩ := getF X235 hx hZ hown (host := "") (Or.inl (hw _ (List.mem_of_getElem? (i := 10) rfl))) Via.refl e235 fa20 (g := (mkF m 155 #[.val (.ref oa), .val (.int xa), .val (.int (15 : Int32)), .val (.int (own_v10_87_2 xa)), .val (.int (own_v10_57_2 xa LS))] [(.ref oa)])) rfl rfl (hb hby own_d10_155)
              refine own_go (T' := T237) (f' := (mkF m 158 #[.val (.ref oa), .val (.int xa), .val (.int (15 : Int32)), .val (.int (own_v10_87_2 xa)), .val (.int (own_v10_57_2 xa LS))] [(.ref oe)])) ?_ (st237)
              refine own_go (T' := T237) (f' := (mkF m 159 #[.val (.ref oa), .val (.int xa), .val (.int (15 : Int32)), .val (.int (own_v10_87_2 xa)), .val (.int (own_v10_57_2 xa LS))] [(.ref oa), (.ref oe)])) ?_ (fun _ k => XS.aloadN X237.here hx rfl (hb hby own_d10_158) rfl rfl k)
              obtain ⟨T238, X238, e238, st238⟩ := getF X237 hx hZ hown (host := "") (Or.inl (hw _ (List.mem_of_getElem? (i := 24) rfl))) Via.refl e237 fa24 (g := (mkF m 159 #[.val (.ref oa), .val (.int xa), .val (.int (15 : Int32)), .val (.int (own_v10_87_2 xa)), .val (.int (own_v10_57_2 xa LS))] [(.ref oa), (.ref oe)])) rfl rfl (hb hby own_d10_159)
              refine own_go (T' := T238) (f' := (mkF m 162 #[.val (.ref oa), .val (.int xa), .val (.int (15 : Int32)), .val (.int (own_v10_87_2 xa)), .val (.int (own_v10_57_2 xa LS))] [(.int nd), (.ref oe)])) ?_ (st238)
              refine own_go (T' := T238) (f' := (mkF m 163 #[.val (.ref oa), .val (.int xa), .val (.int (15 : Int32)), .val (.int (own_v10_87_2 xa)), .val (.int (own_v10_57_2 xa LS))] [(.int xa), (.int nd), (.ref oe)])) ?_ (fun _ k => XS.iloadN X238.here hx rfl (hb hby own_d10_162) rfl  k)
              obtain ⟨T239, h239, X239, e239, W239, F239, st239⟩ := own_stI X238 hx hZ e238 fa27 (j := nd) (own_ndi hv hb_) (g := (mkF m 163 #[.val (.ref oa), .val (.int xa), .val (.int (15 : Int32)), .val (.int (own_v10_87_2 xa)), .val (.int (own_v10_57_2 xa LS))] [(.int xa), (.int nd), (.ref oe)])) rfl rfl (hb hby own_d10_163)
              have fa240 := fa19.wr W239
              have fa241 := fa20.other W239 (Or.inl ne_oa_oe)
              have fa242 := fa21.other W239 (Or.inl ne_oa_oe)
              have fa243 := fa22.other W239 (Or.inl ne_oa_oe)
              have fa244 := fa23.other W239 (Or.inl ne_oa_oe)
              have fa245 := fa24.other W239 (Or.inl ne_oa_oe)
              have fa246 := fa26.other W239 (Or.inl ne_oa_oe)
              have fa248 := fa28.other W239 (Ne.symm ne_oe_oc)
              have fa249 := fa29.other W239 (Ne.symm ne_oe_oo)
              have fa250 := fa30.other W239 (Ne.symm ne_oe_os)
              have fa251 := Fw18.other W239 (Or.inl ne_oa_oe)
              have Fw239 : own_AI Z h239 oe .int (4 : Int32) (LE.set (nd).toNatClampNeg xa) := F239
              have N239 := Fr.snoc X239 N18 g_oe
              have KK239 : Keep h0 h239 [oa, oe, oc, oo, os] := KK18.wr W239 (Or.inl (List.mem_of_getElem? (i := 1) rfl))
              have ZZ239 : n0 ≤ h239.size := Nat.le_trans ZZ18 (Keep.of_wr W239).1
              refine own_go (T' := T239) (f' := (mkF m 164 #[.val (.ref oa), .val (.int xa), .val (.int (15 : Int32)), .val (.int (own_v10_87_2 xa)), .val (.int (own_v10_57_2 xa LS))] [])) ?_ (st239)
              refine own_go (T' := T239) (f' := (mkF m 165 #[.val (.ref oa), .val (.int xa), .val (.int (15 : Int32)), .val (.int (own_v10_87_2 xa)), .val (.int (own_v10_57_2 xa LS))] [(.ref oa)])) ?_ (fun _ k => XS.aloadN X239.here hx rfl (hb hby own_d10_164) rfl rfl k)
              obtain ⟨T252, X252, e252, st252⟩ := getF X239 hx hZ hown (host := "") (Or.inl (hw _ (List.mem_of_getElem? (i := 13) rfl))) Via.refl e239 fa242 (g := (mkF m 165 #[.val (.ref oa), .val (.int xa), .val (.int (15 : Int32)), .val (.int (own_v10_87_2 xa)), .val (.int (own_v10_57_2 xa LS))] [(.ref oa)])) rfl rfl (hb hby own_d10_165)
              refine own_go (T' := T252) (f' := (mkF m 168 #[.val (.ref oa), .val (.int xa), .val (.int (15 : Int32)), .val (.int (own_v10_87_2 xa)), .val (.int (own_v10_57_2 xa LS))] [(.ref oc)])) ?_ (st252)
              refine own_go (T' := T252) (f' := (mkF m 169 #[.val (.ref oa), .val (.int xa), .val (.int (15 : Int32)), .val (.int (own_v10_87_2 xa)), .val (.int (own_v10_57_2 xa LS))] [(.ref oa), (.ref oc)])) ?_ (fun _ k => XS.aloadN X252.here hx rfl (hb hby own_d10_168) rfl rfl k)
              obtain ⟨T253, X253, e253, st253⟩ := getF X252 hx hZ hown (host := "") (Or.inl (hw _ (List.mem_of_getElem? (i := 24) rfl))) Via.refl e252 fa245 (g := (mkF m 169 #[.val (.ref oa), .val (.int xa), .val (.int (15 : Int32)), .val (.int (own_v10_87_2 xa)), .val (.int (own_v10_57_2 xa LS))] [(.ref oa), (.ref oc)])) rfl rfl (hb hby own_d10_169)
              refine own_go (T' := T253) (f' := (mkF m 172 #[.val (.ref oa), .val (.int xa), .val (.int (15 : Int32)), .val (.int (own_v10_87_2 xa)), .val (.int (own_v10_57_2 xa LS))] [(.int nd), (.ref oc)])) ?_ (st253)
              refine own_go (T' := T253) (f' := (mkF m 173 #[.val (.ref oa), .val (.int xa), .val (.int (15 : Int32)), .val (.int (own_v10_87_2 xa)), .val (.int (own_v10_57_2 xa LS))] [(.long (1 : Int64)), (.int nd), (.ref oc)])) ?_ (fun _ k => XS.lconst X253.here hx rfl (hb hby own_d10_172) k)
              obtain ⟨T254, h254, X254, e254, W254, F254, st254⟩ := own_stJ X253 hx hZ e253 fa248 (j := nd) (own_ndi hv hb_) (g := (mkF m 173 #[.val (.ref oa), .val (.int xa), .val (.int (15 : Int32)), .val (.int (own_v10_87_2 xa)), .val (.int (own_v10_57_2 xa LS))] [(.long (1 : Int64)), (.int nd), (.ref oc)])) rfl rfl (hb hby own_d10_173)
              have fa255 := fa240.wr W254
              have fa256 := fa241.other W254 (Or.inl ne_oa_oc)
              have fa257 := fa242.other W254 (Or.inl ne_oa_oc)
              have fa258 := fa243.other W254 (Or.inl ne_oa_oc)
              have fa259 := fa244.other W254 (Or.inl ne_oa_oc)
              have fa260 := fa245.other W254 (Or.inl ne_oa_oc)
              have fa261 := fa246.other W254 (Or.inl ne_oa_oc)
              have fa263 := fa249.other W254 (Ne.symm ne_oc_oo)
              have fa264 := fa250.other W254 (Ne.symm ne_oc_os)
              have fa265 := fa251.other W254 (Or.inl ne_oa_oc)
              have fa266 := Fw239.other W254 ne_oe_oc
              have Fw254 : own_AJ Z h254 oc (4 : Int32) (LC.set (nd).toNatClampNeg (1 : Int64)) := F254
              have N254 := Fr.snoc X254 N239 g_oc
              have KK254 : Keep h0 h254 [oa, oe, oc, oo, os] := KK239.wr W254 (Or.inl (List.mem_of_getElem? (i := 2) rfl))
              have ZZ254 : n0 ≤ h254.size := Nat.le_trans ZZ239 (Keep.of_wr W254).1
              refine own_go (T' := T254) (f' := (mkF m 174 #[.val (.ref oa), .val (.int xa), .val (.int (15 : Int32)), .val (.int (own_v10_87_2 xa)), .val (.int (own_v10_57_2 xa LS))] [])) ?_ (st254)
              refine own_go (T' := T254) (f' := (mkF m 175 #[.val (.ref oa), .val (.int xa), .val (.int (15 : Int32)), .val (.int (own_v10_87_2 xa)), .val (.int (own_v10_57_2 xa LS))] [(.ref oa)])) ?_ (fun _ k => XS.aloadN X254.here hx rfl (hb hby own_d10_174) rfl rfl k)
              obtain ⟨T267, X267, e267, st267⟩ := getF X254 hx hZ hown (host := "") (Or.inl (hw _ (List.mem_of_getElem? (i := 15) rfl))) Via.refl e254 fa258 (g := (mkF m 175 #[.val (.ref oa), .val (.int xa), .val (.int (15 : Int32)), .val (.int (own_v10_87_2 xa)), .val (.int (own_v10_57_2 xa LS))] [(.ref oa)])) rfl rfl (hb hby own_d10_175)
              refine own_go (T' := T267) (f' := (mkF m 178 #[.val (.ref oa), .val (.int xa), .val (.int (15 : Int32)), .val (.int (own_v10_87_2 xa)), .val (.int (own_v10_57_2 xa LS))] [(.ref oo)])) ?_ (st267)
              refine own_go (T' := T267) (f' := (mkF m 179 #[.val (.ref oa), .val (.int xa), .val (.int (15 : Int32)), .val (.int (own_v10_87_2 xa)), .val (.int (own_v10_57_2 xa LS))] [(.ref oa), (.ref oo)])) ?_ (fun _ k => XS.aloadN X267.here hx rfl (hb hby own_d10_178) rfl rfl k)
              obtain ⟨T268, X268, e268, st268⟩ := getF X267 hx hZ hown (host := "") (Or.inl (hw _ (List.mem_of_getElem? (i := 24) rfl))) Via.refl e267 fa260 (g := (mkF m 179 #[.val (.ref oa), .val (.int xa), .val (.int (15 : Int32)), .val (.int (own_v10_87_2 xa)), .val (.int (own_v10_57_2 xa LS))] [(.ref oa), (.ref oo)])) rfl rfl (hb hby own_d10_179)
              refine own_go (T' := T268) (f' := (mkF m 182 #[.val (.ref oa), .val (.int xa), .val (.int (15 : Int32)), .val (.int (own_v10_87_2 xa)), .val (.int (own_v10_57_2 xa LS))] [(.int nd), (.ref oo)])) ?_ (st268)
              refine own_go (T' := T268) (f' := (mkF m 183 #[.val (.ref oa), .val (.int xa), .val (.int (15 : Int32)), .val (.int (own_v10_87_2 xa)), .val (.int (own_v10_57_2 xa LS))] [(.int (own_v10_87_2 xa)), (.int nd), (.ref oo)])) ?_ (fun _ k => XS.iloadN X268.here hx rfl (hb hby own_d10_182) rfl  k)
              obtain ⟨T269, h269, X269, e269, W269, F269, st269⟩ := own_stI X268 hx hZ e268 fa263 (j := nd) (own_ndi hv hb_) (g := (mkF m 183 #[.val (.ref oa), .val (.int xa), .val (.int (15 : Int32)), .val (.int (own_v10_87_2 xa)), .val (.int (own_v10_57_2 xa LS))] [(.int (own_v10_87_2 xa)), (.int nd), (.ref oo)])) rfl rfl (hb hby own_d10_183)
              have fa270 := fa255.wr W269
              have fa271 := fa256.other W269 (Or.inl ne_oa_oo)
              have fa272 := fa257.other W269 (Or.inl ne_oa_oo)
              have fa273 := fa258.other W269 (Or.inl ne_oa_oo)
              have fa274 := fa259.other W269 (Or.inl ne_oa_oo)
              have fa275 := fa260.other W269 (Or.inl ne_oa_oo)
              have fa276 := fa261.other W269 (Or.inl ne_oa_oo)
              have fa278 := fa264.other W269 (Ne.symm ne_oo_os)
              have fa279 := fa265.other W269 (Or.inl ne_oa_oo)
              have fa280 := fa266.other W269 ne_oe_oo
              have fa281 := Fw254.other W269 ne_oc_oo
              have Fw269 : own_AI Z h269 oo .int (4 : Int32) (LO.set (nd).toNatClampNeg (own_v10_87_2 xa)) := F269
              have N269 := Fr.snoc X269 N254 g_oo
              have KK269 : Keep h0 h269 [oa, oe, oc, oo, os] := KK254.wr W269 (Or.inl (List.mem_of_getElem? (i := 3) rfl))
              have ZZ269 : n0 ≤ h269.size := Nat.le_trans ZZ254 (Keep.of_wr W269).1
              refine own_go (T' := T269) (f' := (mkF m 184 #[.val (.ref oa), .val (.int xa), .val (.int (15 : Int32)), .val (.int (own_v10_87_2 xa)), .val (.int (own_v10_57_2 xa LS))] [])) ?_ (st269)
              refine own_go (T' := T269) (f' := (mkF m 185 #[.val (.ref oa), .val (.int xa), .val (.int (15 : Int32)), .val (.int (own_v10_87_2 xa)), .val (.int (own_v10_57_2 xa LS))] [(.ref oa)])) ?_ (fun _ k => XS.aloadN X269.here hx rfl (hb hby own_d10_184) rfl rfl k)
              obtain ⟨T282, X282, e282, st282⟩ := getF X269 hx hZ hown (host := "") (Or.inl (hw _ (List.mem_of_getElem? (i := 17) rfl))) Via.refl e269 fa274 (g := (mkF m 185 #[.val (.ref oa), .val (.int xa), .val (.int (15 : Int32)), .val (.int (own_v10_87_2 xa)), .val (.int (own_v10_57_2 xa LS))] [(.ref oa)])) rfl rfl (hb hby own_d10_185)
              refine own_go (T' := T282) (f' := (mkF m 188 #[.val (.ref oa), .val (.int xa), .val (.int (15 : Int32)), .val (.int (own_v10_87_2 xa)), .val (.int (own_v10_57_2 xa LS))] [(.ref os)])) ?_ (st282)
              refine own_go (T' := T282) (f' := (mkF m 189 #[.val (.ref oa), .val (.int xa), .val (.int (15 : Int32)), .val (.int (own_v10_87_2 xa)), .val (.int (own_v10_57_2 xa LS))] [(.int (own_v10_87_2 xa)), (.ref os)])) ?_ (fun _ k => XS.iloadN X282.here hx rfl (hb hby own_d10_188) rfl  k)
              refine own_go (T' := T282) (f' := (mkF m 190 #[.val (.ref oa), .val (.int xa), .val (.int (15 : Int32)), .val (.int (own_v10_87_2 xa)), .val (.int (own_v10_57_2 xa LS))] [(.ref oa), (.int (own_v10_87_2 xa)), (.ref os)])) ?_ (fun _ k => XS.aloadN X282.here hx rfl (hb hby own_d10_189) rfl rfl k)
              refine own_go (T' := T282) (f' := (mkF m 191 #[.val (.ref oa), .val (.int xa), .val (.int (15 : Int32)), .val (.int (own_v10_87_2 xa)), .val (.int (own_v10_57_2 xa LS))] [(.ref oa), (.ref oa), (.int (own_v10_87_2 xa)), (.ref os)])) ?_ (fun _ k => XS.dup X282.here hx rfl (hb hby own_d10_190) rfl rfl k)
              obtain ⟨T283, X283, e283, st283⟩ := getF X282 hx hZ hown (host := "") (Or.inl (hw _ (List.mem_of_getElem? (i := 24) rfl))) Via.refl e282 fa275 (g := (mkF m 191 #[.val (.ref oa), .val (.int xa), .val (.int (15 : Int32)), .val (.int (own_v10_87_2 xa)), .val (.int (own_v10_57_2 xa LS))] [(.ref oa), (.ref oa), (.int (own_v10_87_2 xa)), (.ref os)])) rfl rfl (hb hby own_d10_191)
              refine own_go (T' := T283) (f' := (mkF m 194 #[.val (.ref oa), .val (.int xa), .val (.int (15 : Int32)), .val (.int (own_v10_87_2 xa)), .val (.int (own_v10_57_2 xa LS))] [(.int nd), (.ref oa), (.int (own_v10_87_2 xa)), (.ref os)])) ?_ (st283)
              refine own_go (T' := T283) (f' := (mkF m 195 #[.val (.ref oa), .val (.int xa), .val (.int (15 : Int32)), .val (.int (own_v10_87_2 xa)), .val (.int (own_v10_57_2 xa LS))] [(.int (1 : Int32)), (.int nd), (.ref oa), (.int (own_v10_87_2 xa)), (.ref os)])) ?_ (fun _ k => XS.iconst X283.here hx rfl (hb hby own_d10_194) k)
              refine own_go (T' := T283) (f' := (mkF m 196 #[.val (.ref oa), .val (.int xa), .val (.int (15 : Int32)), .val (.int (own_v10_87_2 xa)), .val (.int (own_v10_57_2 xa LS))] [(.int (nd + (1 : Int32))), (.ref oa), (.int (own_v10_87_2 xa)), (.ref os)])) ?_ (fun _ k => XS.iadd X283.here hx rfl (hb hby own_d10_195) rfl k)
              refine own_go (T' := T283) (f' := (mkF m 197 #[.val (.ref oa), .val (.int xa), .val (.int (15 : Int32)), .val (.int (own_v10_87_2 xa)), .val (.int (own_v10_57_2 xa LS))] [(.int (nd + (1 : Int32))), (.ref oa), (.int (nd + (1 : Int32))), (.int (own_v10_87_2 xa)), (.ref os)])) ?_ (fun _ k => XS.dupX1 X283.here hx rfl (hb hby own_d10_196) rfl rfl rfl k)
              obtain ⟨T284, h284, X284, e284, W284, st284⟩ := putF X283 hx hZ hown (host := "") (Or.inl (hw _ (List.mem_of_getElem? (i := 24) rfl))) Via.refl e283 fa275 fa270 (Or.inl (hw _ (List.mem_of_getElem? (i := 25) rfl))) (hw _ (List.mem_of_getElem? (i := 1) rfl)) (ty := .int) (by decide) rfl rfl (g := (mkF m 197 #[.val (.ref oa), .val (.int xa), .val (.int (15 : Int32)), .val (.int (own_v10_87_2 xa)), .val (.int (own_v10_57_2 xa LS))] [(.int (nd + (1 : Int32))), (.ref oa), (.int (nd + (1 : Int32))), (.int (own_v10_87_2 xa)), (.ref os)])) rfl rfl (hb hby own_d10_197)
              have fa285 := fa270.wr W284
              have fa286 := fa271.other W284 (Or.inr (slot_ne (Or.inl (hw _ (List.mem_of_getElem? (i := 11) rfl))) (Or.inl (hw _ (List.mem_of_getElem? (i := 25) rfl))) (by decide) (t := (.array .int)) (t' := .int) (by decide) (by decide)))
              have fa287 := fa272.other W284 (Or.inr (slot_ne (Or.inl (hw _ (List.mem_of_getElem? (i := 14) rfl))) (Or.inl (hw _ (List.mem_of_getElem? (i := 25) rfl))) (by decide) (t := (.array .long)) (t' := .int) (by decide) (by decide)))
              have fa288 := fa273.other W284 (Or.inr (slot_ne (Or.inl (hw _ (List.mem_of_getElem? (i := 16) rfl))) (Or.inl (hw _ (List.mem_of_getElem? (i := 25) rfl))) (by decide) (t := (.array .int)) (t' := .int) (by decide) (by decide)))
              have fa289 := fa274.other W284 (Or.inr (slot_ne (Or.inl (hw _ (List.mem_of_getElem? (i := 18) rfl))) (Or.inl (hw _ (List.mem_of_getElem? (i := 25) rfl))) (by decide) (t := (.array .int)) (t' := .int) (by decide) (by decide)))
              have fa291 := fa276.other W284 (Or.inr (slot_ne (Or.inl (hw _ (List.mem_of_getElem? (i := 29) rfl))) (Or.inl (hw _ (List.mem_of_getElem? (i := 25) rfl))) (by decide) (t := .long) (t' := .int) (by decide) (by decide)))
              have fa292 := fa278.other W284 (Ne.symm ne_oa_os)
              have fa293 := fa279.other W284 (Or.inr (slot_ne (Or.inl (hw _ (List.mem_of_getElem? (i := 27) rfl))) (Or.inl (hw _ (List.mem_of_getElem? (i := 25) rfl))) (by decide) (t := .long) (t' := .int) (by decide) (by decide)))
              have fa294 := fa280.other W284 (Ne.symm ne_oa_oe)
              have fa295 := fa281.other W284 (Ne.symm ne_oa_oc)
              have fa296 := Fw269.other W284 (Ne.symm ne_oa_oo)
              have Fw284 := fa275.same W284
              have N284 := Fr.snoc X284 N269 g_oa
              have KK284 : Keep h0 h284 [oa, oe, oc, oo, os] := KK269.wr W284 (Or.inl (List.mem_of_getElem? (i := 0) rfl))
              have ZZ284 : n0 ≤ h284.size := Nat.le_trans ZZ269 (Keep.of_wr W284).1
              refine own_go (T' := T284) (f' := (mkF m 200 #[.val (.ref oa), .val (.int xa), .val (.int (15 : Int32)), .val (.int (own_v10_87_2 xa)), .val (.int (own_v10_57_2 xa LS))] [(.int (nd + (1 : Int32))), (.int (own_v10_87_2 xa)), (.ref os)])) ?_ (st284)
              obtain ⟨T297, h297, X297, e297, W297, F297, st297⟩ := own_stI X284 hx hZ e284 fa292 (j := (own_v10_87_2 xa)) (own_h15 _) (g := (mkF m 200 #[.val (.ref oa), .val (.int xa), .val (.int (15 : Int32)), .val (.int (own_v10_87_2 xa)), .val (.int (own_v10_57_2 xa LS))] [(.int (nd + (1 : Int32))), (.int (own_v10_87_2 xa)), (.ref os)])) rfl rfl (hb hby own_d10_200)
              have fa298 := fa285.wr W297
              have fa299 := fa286.other W297 (Or.inl ne_oa_os)
              have fa300 := fa287.other W297 (Or.inl ne_oa_os)
              have fa301 := fa288.other W297 (Or.inl ne_oa_os)
              have fa302 := fa289.other W297 (Or.inl ne_oa_os)
              have fa303 := fa291.other W297 (Or.inl ne_oa_os)
              have fa305 := fa293.other W297 (Or.inl ne_oa_os)
              have fa306 := fa294.other W297 ne_oe_os
              have fa307 := fa295.other W297 ne_oc_os
              have fa308 := fa296.other W297 ne_oo_os
              have fa309 := Fw284.other W297 (Or.inl ne_oa_os)
              have Fw297 : own_AI Z h297 os .int (16 : Int32) (LS.set ((own_v10_87_2 xa)).toNatClampNeg (nd + (1 : Int32))) := F297
              have N297 := Fr.snoc X297 N284 g_os
              have KK297 : Keep h0 h297 [oa, oe, oc, oo, os] := KK284.wr W297 (Or.inl (List.mem_of_getElem? (i := 4) rfl))
              have ZZ297 : n0 ≤ h297.size := Nat.le_trans ZZ284 (Keep.of_wr W297).1
              refine own_go (T' := T297) (f' := (mkF m 201 #[.val (.ref oa), .val (.int xa), .val (.int (15 : Int32)), .val (.int (own_v10_87_2 xa)), .val (.int (own_v10_57_2 xa LS))] [])) ?_ (st297)
              refine own_go (T' := T297) (f' := (mkF m 202 #[.val (.ref oa), .val (.int xa), .val (.int (15 : Int32)), .val (.int (own_v10_87_2 xa)), .val (.int (own_v10_57_2 xa LS))] [(.int (2 : Int32))])) ?_ (fun _ k => XS.iconst X297.here hx rfl (hb hby own_d10_201) k)
              refine own_go (T' := T297) (f' := (mkF m 203 #[.val (.ref oa), .val (.int xa), .val (.int (15 : Int32)), .val (.int (own_v10_87_2 xa)), .val (.int (own_v10_57_2 xa LS))] [(.ref oa), (.int (2 : Int32))])) ?_ (fun _ k => XS.aloadN X297.here hx rfl (hb hby own_d10_202) rfl rfl k)
              obtain ⟨T310, X310, e310, st310⟩ := getF X297 hx hZ hown (host := "") (Or.inl (hw _ (List.mem_of_getElem? (i := 24) rfl))) Via.refl e297 fa309 (g := (mkF m 203 #[.val (.ref oa), .val (.int xa), .val (.int (15 : Int32)), .val (.int (own_v10_87_2 xa)), .val (.int (own_v10_57_2 xa LS))] [(.ref oa), (.int (2 : Int32))])) rfl rfl (hb hby own_d10_203)
              refine own_go (T' := T310) (f' := (mkF m 206 #[.val (.ref oa), .val (.int xa), .val (.int (15 : Int32)), .val (.int (own_v10_87_2 xa)), .val (.int (own_v10_57_2 xa LS))] [(.int (nd + (1 : Int32))), (.int (2 : Int32))])) ?_ (st310)
              refine own_go (T' := T310) (f' := (mkF m 207 #[.val (.ref oa), .val (.int xa), .val (.int (15 : Int32)), .val (.int (own_v10_87_2 xa)), .val (.int (own_v10_57_2 xa LS))] [(.int ((2 : Int32) * (nd + (1 : Int32))))])) ?_ (fun _ k => XS.imul X310.here hx rfl (hb hby own_d10_206) rfl k)
              refine own_go (T' := T310) (f' := (mkF m 208 #[.val (.ref oa), .val (.int xa), .val (.int (15 : Int32)), .val (.int (own_v10_87_2 xa)), .val (.int (own_v10_57_2 xa LS))] [(.ref oa), (.int ((2 : Int32) * (nd + (1 : Int32))))])) ?_ (fun _ k => XS.aloadN X310.here hx rfl (hb hby own_d10_207) rfl rfl k)
              obtain ⟨T311, X311, e311, st311⟩ := getF X310 hx hZ hown (host := "") (Or.inl (hw _ (List.mem_of_getElem? (i := 17) rfl))) Via.refl e310 fa302 (g := (mkF m 208 #[.val (.ref oa), .val (.int xa), .val (.int (15 : Int32)), .val (.int (own_v10_87_2 xa)), .val (.int (own_v10_57_2 xa LS))] [(.ref oa), (.int ((2 : Int32) * (nd + (1 : Int32))))])) rfl rfl (hb hby own_d10_208)
              refine own_go (T' := T311) (f' := (mkF m 211 #[.val (.ref oa), .val (.int xa), .val (.int (15 : Int32)), .val (.int (own_v10_87_2 xa)), .val (.int (own_v10_57_2 xa LS))] [(.ref os), (.int ((2 : Int32) * (nd + (1 : Int32))))])) ?_ (st311)
              refine own_go (T' := T311) (f' := (mkF m 212 #[.val (.ref oa), .val (.int xa), .val (.int (15 : Int32)), .val (.int (own_v10_87_2 xa)), .val (.int (own_v10_57_2 xa LS))] [(.int (16 : Int32)), (.int ((2 : Int32) * (nd + (1 : Int32))))])) ?_ (own_len X311 hx hZ e311 Fw297 (g := (mkF m 211 #[.val (.ref oa), .val (.int xa), .val (.int (15 : Int32)), .val (.int (own_v10_87_2 xa)), .val (.int (own_v10_57_2 xa LS))] [(.ref os), (.int ((2 : Int32) * (nd + (1 : Int32))))])) rfl rfl (hb hby own_d10_211))
              have hk212_312 : ¬ ((16 : Int32) < ((2 : Int32) * (nd + (1 : Int32)))) := (own_nd16 hv hb_)
              refine own_go (T' := T311) (f' := (mkF m 219 #[.val (.ref oa), .val (.int xa), .val (.int (15 : Int32)), .val (.int (own_v10_87_2 xa)), .val (.int (own_v10_57_2 xa LS))] [])) ?_ (fun _ k => XS.icmpYes X311.here hx rfl (pc0 := 212) (pc' := 219) rfl (hb hby own_d10_212) rfl (flt hk212_312).2.2.2 (by decide) (by decide) k)
              obtain ⟨fs313, hr313, hrun313, hended313, hW313, hsame313⟩ := X311.leave (v := none) (fun _ => rfl)
              refine ⟨_, ⟨_, hrun313, hended313, _, _, rfl, ?_, ⟨_, rfl⟩, hW313, hsame313.mono (by decide) (by decide)⟩, fun _ k => (X311.returnOut hx Bd.returns (hb hby own_d10_219) hr313).trans k⟩
              show own_Q10 Z oa xa oe oc oo os nd tt ig LE LC LO LS bb h0 n0 _ T311.heap _
              rw [e311]
              exact ⟨(nd + (1 : Int32)), (tt + (1 : Int64)), ig, (LE.set (nd).toNatClampNeg xa), (LC.set (nd).toNatClampNeg (1 : Int64)), (LO.set (nd).toNatClampNeg (own_v10_87_2 xa)), (LS.set ((own_v10_87_2 xa)).toNatClampNeg (nd + (1 : Int32))), rfl, N297, KK297, fa299, fa300, fa301, fa302, fa309, fa305, fa303, fa306, fa307, fa308, Fw297, (own_inv_ins hv hb_ hc46_233 (own_h15 _) A_oo A_os), (own_spec_far hc1_1 hc46_33 (own_h15 _))⟩
            · refine own_go (T' := T232) (f' := (mkF m 49 #[.val (.ref oa), .val (.int xa), .val (.int (15 : Int32)), .val (.int (own_v10_87_2 xa)), .val (.int (own_v10_57_2 xa LS))] [])) ?_ (fun _ k => XS.ifNo X232.here hx rfl (hb hby own_d10_46) rfl ((if0 _ _).trans (feq hc46_233).1) k)
              refine own_go (T' := T232) (f' := (mkF m 50 #[.val (.ref oa), .val (.int xa), .val (.int (15 : Int32)), .val (.int (own_v10_87_2 xa)), .val (.int (own_v10_57_2 xa LS))] [(.ref oa)])) ?_ (fun _ k => XS.aloadN X232.here hx rfl (hb hby own_d10_49) rfl rfl k)
              obtain ⟨T314, X314, e314, st314⟩ := getF X232 hx hZ hown (host := "") (Or.inl (hw _ (List.mem_of_getElem? (i := 17) rfl))) Via.refl e232 fa23 (g := (mkF m 50 #[.val (.ref oa), .val (.int xa), .val (.int (15 : Int32)), .val (.int (own_v10_87_2 xa)), .val (.int (own_v10_57_2 xa LS))] [(.ref oa)])) rfl rfl (hb hby own_d10_50)
              refine own_go (T' := T314) (f' := (mkF m 53 #[.val (.ref oa), .val (.int xa), .val (.int (15 : Int32)), .val (.int (own_v10_87_2 xa)), .val (.int (own_v10_57_2 xa LS))] [(.ref os)])) ?_ (st314)
              refine own_go (T' := T314) (f' := (mkF m 54 #[.val (.ref oa), .val (.int xa), .val (.int (15 : Int32)), .val (.int (own_v10_87_2 xa)), .val (.int (own_v10_57_2 xa LS))] [(.int (own_v10_87_2 xa)), (.ref os)])) ?_ (fun _ k => XS.iloadN X314.here hx rfl (hb hby own_d10_53) rfl  k)
              refine own_go (T' := T314) (f' := (mkF m 55 #[.val (.ref oa), .val (.int xa), .val (.int (15 : Int32)), .val (.int (own_v10_87_2 xa)), .val (.int (own_v10_57_2 xa LS))] [(.int (LS.getD ((own_v10_87_2 xa)).toNatClampNeg 0))])) ?_ (own_ldI X314 hx hZ e314 fa30 (j := (own_v10_87_2 xa)) (own_h15 _) (g := (mkF m 54 #[.val (.ref oa), .val (.int xa), .val (.int (15 : Int32)), .val (.int (own_v10_87_2 xa)), .val (.int (own_v10_57_2 xa LS))] [(.int (own_v10_87_2 xa)), (.ref os)])) rfl rfl (hb hby own_d10_54))
              refine own_go (T' := T314) (f' := (mkF m 56 #[.val (.ref oa), .val (.int xa), .val (.int (15 : Int32)), .val (.int (own_v10_87_2 xa)), .val (.int (own_v10_57_2 xa LS))] [(.int (1 : Int32)), (.int (LS.getD ((own_v10_87_2 xa)).toNatClampNeg 0))])) ?_ (fun _ k => XS.iconst X314.here hx rfl (hb hby own_d10_55) k)
              refine own_go (T' := T314) (f' := (mkF m 57 #[.val (.ref oa), .val (.int xa), .val (.int (15 : Int32)), .val (.int (own_v10_87_2 xa)), .val (.int (own_v10_57_2 xa LS))] [(.int ((LS.getD ((own_v10_87_2 xa)).toNatClampNeg 0) - (1 : Int32)))])) ?_ (fun _ k => XS.isub X314.here hx rfl (hb hby own_d10_56) rfl k)
              refine own_go (T' := T314) (f' := (mkF m 59 #[.val (.ref oa), .val (.int xa), .val (.int (15 : Int32)), .val (.int (own_v10_87_2 xa)), .val (.int (own_v10_57_3 xa LS))] [])) ?_ (fun _ k => XS.istore X314.here hx rfl (hb hby own_d10_57) rfl (l' := #[.val (.ref oa), .val (.int xa), .val (.int (15 : Int32)), .val (.int (own_v10_87_2 xa)), .val (.int (own_v10_57_3 xa LS))]) rfl k)
              refine own_go (T' := T314) (f' := (mkF m 60 #[.val (.ref oa), .val (.int xa), .val (.int (15 : Int32)), .val (.int (own_v10_87_2 xa)), .val (.int (own_v10_57_3 xa LS))] [(.ref oa)])) ?_ (fun _ k => XS.aloadN X314.here hx rfl (hb hby own_d10_59) rfl rfl k)
              obtain ⟨T315, X315, e315, st315⟩ := getF X314 hx hZ hown (host := "") (Or.inl (hw _ (List.mem_of_getElem? (i := 10) rfl))) Via.refl e314 fa20 (g := (mkF m 60 #[.val (.ref oa), .val (.int xa), .val (.int (15 : Int32)), .val (.int (own_v10_87_2 xa)), .val (.int (own_v10_57_3 xa LS))] [(.ref oa)])) rfl rfl (hb hby own_d10_60)
              refine own_go (T' := T315) (f' := (mkF m 63 #[.val (.ref oa), .val (.int xa), .val (.int (15 : Int32)), .val (.int (own_v10_87_2 xa)), .val (.int (own_v10_57_3 xa LS))] [(.ref oe)])) ?_ (st315)
              refine own_go (T' := T315) (f' := (mkF m 65 #[.val (.ref oa), .val (.int xa), .val (.int (15 : Int32)), .val (.int (own_v10_87_2 xa)), .val (.int (own_v10_57_3 xa LS))] [(.int (own_v10_57_3 xa LS)), (.ref oe)])) ?_ (fun _ k => XS.iload X315.here hx rfl (hb hby own_d10_63) rfl  k)
              refine own_go (T' := T315) (f' := (mkF m 66 #[.val (.ref oa), .val (.int xa), .val (.int (15 : Int32)), .val (.int (own_v10_87_2 xa)), .val (.int (own_v10_57_3 xa LS))] [(.int (LE.getD ((own_v10_57_3 xa LS)).toNatClampNeg 0))])) ?_ (own_ldI X315 hx hZ e315 fa27 (j := (own_v10_57_3 xa LS)) (own_slot hv hb_ hc46_233 (own_h15 _)) (g := (mkF m 65 #[.val (.ref oa), .val (.int xa), .val (.int (15 : Int32)), .val (.int (own_v10_87_2 xa)), .val (.int (own_v10_57_3 xa LS))] [(.int (own_v10_57_3 xa LS)), (.ref oe)])) rfl rfl (hb hby own_d10_65))
              refine own_go (T' := T315) (f' := (mkF m 67 #[.val (.ref oa), .val (.int xa), .val (.int (15 : Int32)), .val (.int (own_v10_87_2 xa)), .val (.int (own_v10_57_3 xa LS))] [(.int xa), (.int (LE.getD ((own_v10_57_3 xa LS)).toNatClampNeg 0))])) ?_ (fun _ k => XS.iloadN X315.here hx rfl (hb hby own_d10_66) rfl  k)
              by_cases hc67_316 : (LE.getD ((own_v10_57_3 xa LS)).toNatClampNeg 0) = xa
              · refine own_go (T' := T315) (f' := (mkF m 70 #[.val (.ref oa), .val (.int xa), .val (.int (15 : Int32)), .val (.int (own_v10_87_2 xa)), .val (.int (own_v10_57_3 xa LS))] [])) ?_ (fun _ k => XS.icmpNo X315.here hx rfl (hb hby own_d10_67) rfl (teq hc67_316).2 k)
                refine own_go (T' := T315) (f' := (mkF m 71 #[.val (.ref oa), .val (.int xa), .val (.int (15 : Int32)), .val (.int (own_v10_87_2 xa)), .val (.int (own_v10_57_3 xa LS))] [(.ref oa)])) ?_ (fun _ k => XS.aloadN X315.here hx rfl (hb hby own_d10_70) rfl rfl k)
                obtain ⟨T317, X317, e317, st317⟩ := getF X315 hx hZ hown (host := "") (Or.inl (hw _ (List.mem_of_getElem? (i := 13) rfl))) Via.refl e315 fa21 (g := (mkF m 71 #[.val (.ref oa), .val (.int xa), .val (.int (15 : Int32)), .val (.int (own_v10_87_2 xa)), .val (.int (own_v10_57_3 xa LS))] [(.ref oa)])) rfl rfl (hb hby own_d10_71)
                refine own_go (T' := T317) (f' := (mkF m 74 #[.val (.ref oa), .val (.int xa), .val (.int (15 : Int32)), .val (.int (own_v10_87_2 xa)), .val (.int (own_v10_57_3 xa LS))] [(.ref oc)])) ?_ (st317)
                refine own_go (T' := T317) (f' := (mkF m 76 #[.val (.ref oa), .val (.int xa), .val (.int (15 : Int32)), .val (.int (own_v10_87_2 xa)), .val (.int (own_v10_57_3 xa LS))] [(.int (own_v10_57_3 xa LS)), (.ref oc)])) ?_ (fun _ k => XS.iload X317.here hx rfl (hb hby own_d10_74) rfl  k)
                refine own_go (T' := T317) (f' := (mkF m 77 #[.val (.ref oa), .val (.int xa), .val (.int (15 : Int32)), .val (.int (own_v10_87_2 xa)), .val (.int (own_v10_57_3 xa LS))] [(.int (own_v10_57_3 xa LS)), (.ref oc), (.int (own_v10_57_3 xa LS)), (.ref oc)])) ?_ (fun _ k => Jvm.Free.XT.dup2 X317.here hx rfl (hb hby own_d10_76) rfl rfl rfl k)
                refine own_go (T' := T317) (f' := (mkF m 78 #[.val (.ref oa), .val (.int xa), .val (.int (15 : Int32)), .val (.int (own_v10_87_2 xa)), .val (.int (own_v10_57_3 xa LS))] [(.long (LC.getD ((own_v10_57_3 xa LS)).toNatClampNeg (0 : Int64))), (.int (own_v10_57_3 xa LS)), (.ref oc)])) ?_ (own_ldJ X317 hx hZ e317 fa28 (j := (own_v10_57_3 xa LS)) (own_slot hv hb_ hc46_233 (own_h15 _)) (g := (mkF m 77 #[.val (.ref oa), .val (.int xa), .val (.int (15 : Int32)), .val (.int (own_v10_87_2 xa)), .val (.int (own_v10_57_3 xa LS))] [(.int (own_v10_57_3 xa LS)), (.ref oc), (.int (own_v10_57_3 xa LS)), (.ref oc)])) rfl rfl (hb hby own_d10_77))
                refine own_go (T' := T317) (f' := (mkF m 79 #[.val (.ref oa), .val (.int xa), .val (.int (15 : Int32)), .val (.int (own_v10_87_2 xa)), .val (.int (own_v10_57_3 xa LS))] [(.long (1 : Int64)), (.long (LC.getD ((own_v10_57_3 xa LS)).toNatClampNeg (0 : Int64))), (.int (own_v10_57_3 xa LS)), (.ref oc)])) ?_ (fun _ k => XS.lconst X317.here hx rfl (hb hby own_d10_78) k)
                refine own_go (T' := T317) (f' := (mkF m 80 #[.val (.ref oa), .val (.int xa), .val (.int (15 : Int32)), .val (.int (own_v10_87_2 xa)), .val (.int (own_v10_57_3 xa LS))] [(.long ((LC.getD ((own_v10_57_3 xa LS)).toNatClampNeg (0 : Int64)) + (1 : Int64))), (.int (own_v10_57_3 xa LS)), (.ref oc)])) ?_ (fun _ k => XS.ladd X317.here hx rfl (hb hby own_d10_79) rfl k)
                obtain ⟨T318, h318, X318, e318, W318, F318, st318⟩ := own_stJ X317 hx hZ e317 fa28 (j := (own_v10_57_3 xa LS)) (own_slot hv hb_ hc46_233 (own_h15 _)) (g := (mkF m 80 #[.val (.ref oa), .val (.int xa), .val (.int (15 : Int32)), .val (.int (own_v10_87_2 xa)), .val (.int (own_v10_57_3 xa LS))] [(.long ((LC.getD ((own_v10_57_3 xa LS)).toNatClampNeg (0 : Int64)) + (1 : Int64))), (.int (own_v10_57_3 xa LS)), (.ref oc)])) rfl rfl (hb hby own_d10_80)
                have fa319 := fa19.wr W318
                have fa320 := fa20.other W318 (Or.inl ne_oa_oc)
                have fa321 := fa21.other W318 (Or.inl ne_oa_oc)
                have fa322 := fa22.other W318 (Or.inl ne_oa_oc)
                have fa323 := fa23.other W318 (Or.inl ne_oa_oc)
                have fa324 := fa24.other W318 (Or.inl ne_oa_oc)
                have fa325 := fa26.other W318 (Or.inl ne_oa_oc)
                have fa326 := fa27.other W318 ne_oe_oc
                have fa328 := fa29.other W318 (Ne.symm ne_oc_oo)
                have fa329 := fa30.other W318 (Ne.symm ne_oc_os)
                have fa330 := Fw18.other W318 (Or.inl ne_oa_oc)
                have Fw318 : own_AJ Z h318 oc (4 : Int32) (LC.set ((own_v10_57_3 xa LS)).toNatClampNeg (own_v10_80_3 xa LC LS)) := F318
                have N318 := Fr.snoc X318 N18 g_oc
                have KK318 : Keep h0 h318 [oa, oe, oc, oo, os] := KK18.wr W318 (Or.inl (List.mem_of_getElem? (i := 2) rfl))
                have ZZ318 : n0 ≤ h318.size := Nat.le_trans ZZ18 (Keep.of_wr W318).1
                refine own_go (T' := T318) (f' := (mkF m 81 #[.val (.ref oa), .val (.int xa), .val (.int (15 : Int32)), .val (.int (own_v10_87_2 xa)), .val (.int (own_v10_57_3 xa LS))] [])) ?_ (st318)
                obtain ⟨fs331, hr331, hrun331, hended331, hW331, hsame331⟩ := X318.leave (v := none) (fun _ => rfl)
                refine ⟨_, ⟨_, hrun331, hended331, _, _, rfl, ?_, ⟨_, rfl⟩, hW331, hsame331.mono (by decide) (by decide)⟩, fun _ k => (X318.returnOut hx Bd.returns (hb hby own_d10_81) hr331).trans k⟩
                show own_Q10 Z oa xa oe oc oo os nd tt ig LE LC LO LS bb h0 n0 _ T318.heap _
                rw [e318]
                exact ⟨nd, (tt + (1 : Int64)), ig, LE, (LC.set ((own_v10_57_3 xa LS)).toNatClampNeg (own_v10_80_3 xa LC LS)), LO, LS, rfl, N318, KK318, fa320, fa321, fa322, fa323, fa324, fa330, fa325, fa326, Fw318, fa328, fa329, (own_inv_mono hv), (own_spec_far hc1_1 hc46_33 (own_h15 _))⟩
              · refine own_go (T' := T315) (f' := (mkF m 82 #[.val (.ref oa), .val (.int xa), .val (.int (15 : Int32)), .val (.int (own_v10_87_2 xa)), .val (.int (own_v10_57_3 xa LS))] [])) ?_ (fun _ k => XS.icmpYes X315.here hx rfl (pc0 := 67) (pc' := 82) rfl (hb hby own_d10_67) rfl (feq hc67_316).2 (by decide) (by decide) k)
                refine own_go (T' := T315) (f' := (mkF m 83 #[.val (.ref oa), .val (.int xa), .val (.int (15 : Int32)), .val (.int (own_v10_87_2 xa)), .val (.int (own_v10_57_3 xa LS))] [(.int (own_v10_87_2 xa))])) ?_ (fun _ k => XS.iloadN X315.here hx rfl (hb hby own_d10_82) rfl  k)
                refine own_go (T' := T315) (f' := (mkF m 84 #[.val (.ref oa), .val (.int xa), .val (.int (15 : Int32)), .val (.int (own_v10_87_2 xa)), .val (.int (own_v10_57_3 xa LS))] [(.int (1 : Int32)), (.int (own_v10_87_2 xa))])) ?_ (fun _ k => XS.iconst X315.here hx rfl (hb hby own_d10_83) k)
                refine own_go (T' := T315) (f' := (mkF m 85 #[.val (.ref oa), .val (.int xa), .val (.int (15 : Int32)), .val (.int (own_v10_87_2 xa)), .val (.int (own_v10_57_3 xa LS))] [(.int ((own_v10_87_2 xa) + (1 : Int32)))])) ?_ (fun _ k => XS.iadd X315.here hx rfl (hb hby own_d10_84) rfl k)
                refine own_go (T' := T315) (f' := (mkF m 86 #[.val (.ref oa), .val (.int xa), .val (.int (15 : Int32)), .val (.int (own_v10_87_2 xa)), .val (.int (own_v10_57_3 xa LS))] [(.int (15 : Int32)), (.int ((own_v10_87_2 xa) + (1 : Int32)))])) ?_ (fun _ k => XS.iloadN X315.here hx rfl (hb hby own_d10_85) rfl  k)
                refine own_go (T' := T315) (f' := (mkF m 87 #[.val (.ref oa), .val (.int xa), .val (.int (15 : Int32)), .val (.int (own_v10_87_2 xa)), .val (.int (own_v10_57_3 xa LS))] [(.int (((own_v10_87_2 xa) + (1 : Int32)) &&& (15 : Int32)))])) ?_ (fun _ k => XS.iand X315.here hx rfl (hb hby own_d10_86) rfl k)
                refine own_go (T' := T315) (f' := (mkF m 88 #[.val (.ref oa), .val (.int xa), .val (.int (15 : Int32)), .val (.int (own_v10_87_3 xa)), .val (.int (own_v10_57_3 xa LS))] [])) ?_ (fun _ k => XS.istoreN X315.here hx rfl (hb hby own_d10_87) rfl (l' := #[.val (.ref oa), .val (.int xa), .val (.int (15 : Int32)), .val (.int (own_v10_87_3 xa)), .val (.int (own_v10_57_3 xa LS))]) rfl k)
                refine own_go (T' := T315) (f' := (mkF m 40 #[.val (.ref oa), .val (.int xa), .val (.int (15 : Int32)), .val (.int (own_v10_87_3 xa)), .val (.int (own_v10_57_3 xa LS))] [])) ?_ (fun _ k => XS.goto X315.here hx rfl (pc0 := 88) (pc' := 40) rfl (hb hby own_d10_88) (by decide) (by decide) k)
                refine own_go (T' := T315) (f' := (mkF m 41 #[.val (.ref oa), .val (.int xa), .val (.int (15 : Int32)), .val (.int (own_v10_87_3 xa)), .val (.int (own_v10_57_3 xa LS))] [(.ref oa)])) ?_ (fun _ k => XS.aloadN X315.here hx rfl (hb hby own_d10_40) rfl rfl k)
                obtain ⟨T332, X332, e332, st332⟩ := getF X315 hx hZ hown (host := "") (Or.inl (hw _ (List.mem_of_getElem? (i := 17) rfl))) Via.refl e315 fa23 (g := (mkF m 41 #[.val (.ref oa), .val (.int xa), .val (.int (15 : Int32)), .val (.int (own_v10_87_3 xa)), .val (.int (own_v10_57_3 xa LS))] [(.ref oa)])) rfl rfl (hb hby own_d10_41)
                refine own_go (T' := T332) (f' := (mkF m 44 #[.val (.ref oa), .val (.int xa), .val (.int (15 : Int32)), .val (.int (own_v10_87_3 xa)), .val (.int (own_v10_57_3 xa LS))] [(.ref os)])) ?_ (st332)
                refine own_go (T' := T332) (f' := (mkF m 45 #[.val (.ref oa), .val (.int xa), .val (.int (15 : Int32)), .val (.int (own_v10_87_3 xa)), .val (.int (own_v10_57_3 xa LS))] [(.int (own_v10_87_3 xa)), (.ref os)])) ?_ (fun _ k => XS.iloadN X332.here hx rfl (hb hby own_d10_44) rfl  k)
                refine own_go (T' := T332) (f' := (mkF m 46 #[.val (.ref oa), .val (.int xa), .val (.int (15 : Int32)), .val (.int (own_v10_87_3 xa)), .val (.int (own_v10_57_3 xa LS))] [(.int (LS.getD ((own_v10_87_3 xa)).toNatClampNeg 0))])) ?_ (own_ldI X332 hx hZ e332 fa30 (j := (own_v10_87_3 xa)) (own_h15 _) (g := (mkF m 45 #[.val (.ref oa), .val (.int xa), .val (.int (15 : Int32)), .val (.int (own_v10_87_3 xa)), .val (.int (own_v10_57_3 xa LS))] [(.int (own_v10_87_3 xa)), (.ref os)])) rfl rfl (hb hby own_d10_45))
                have hk46_333 : (LS.getD ((own_v10_87_3 xa)).toNatClampNeg 0) = (0 : Int32) := (own_pig xa hv hb_ hc46_33 hc46_133 hc46_233)
                refine own_go (T' := T332) (f' := (mkF m 91 #[.val (.ref oa), .val (.int xa), .val (.int (15 : Int32)), .val (.int (own_v10_87_3 xa)), .val (.int (own_v10_57_3 xa LS))] [])) ?_ (fun _ k => XS.ifYes X332.here hx rfl (pc0 := 46) (pc' := 91) rfl (hb hby own_d10_46) rfl ((if0 _ _).trans (teq hk46_333).1) (by decide) (by decide) k)
                refine own_go (T' := T332) (f' := (mkF m 92 #[.val (.ref oa), .val (.int xa), .val (.int (15 : Int32)), .val (.int (own_v10_87_3 xa)), .val (.int (own_v10_57_3 xa LS))] [(.ref oa)])) ?_ (fun _ k => XS.aloadN X332.here hx rfl (hb hby own_d10_91) rfl rfl k)
                obtain ⟨T334, X334, e334, st334⟩ := getF X332 hx hZ hown (host := "") (Or.inl (hw _ (List.mem_of_getElem? (i := 24) rfl))) Via.refl e332 fa24 (g := (mkF m 92 #[.val (.ref oa), .val (.int xa), .val (.int (15 : Int32)), .val (.int (own_v10_87_3 xa)), .val (.int (own_v10_57_3 xa LS))] [(.ref oa)])) rfl rfl (hb hby own_d10_92)
                refine own_go (T' := T334) (f' := (mkF m 95 #[.val (.ref oa), .val (.int xa), .val (.int (15 : Int32)), .val (.int (own_v10_87_3 xa)), .val (.int (own_v10_57_3 xa LS))] [(.int nd)])) ?_ (st334)
                refine own_go (T' := T334) (f' := (mkF m 96 #[.val (.ref oa), .val (.int xa), .val (.int (15 : Int32)), .val (.int (own_v10_87_3 xa)), .val (.int (own_v10_57_3 xa LS))] [(.ref oa), (.int nd)])) ?_ (fun _ k => XS.aloadN X334.here hx rfl (hb hby own_d10_95) rfl rfl k)
                obtain ⟨T335, X335, e335, st335⟩ := getF X334 hx hZ hown (host := "") (Or.inl (hw _ (List.mem_of_getElem? (i := 10) rfl))) Via.refl e334 fa20 (g := (mkF m 96 #[.val (.ref oa), .val (.int xa), .val (.int (15 : Int32)), .val (.int (own_v10_87_3 xa)), .val (.int (own_v10_57_3 xa LS))] [(.ref oa), (.int nd)])) rfl rfl (hb hby own_d10_96)
                refine own_go (T' := T335) (f' := (mkF m 99 #[.val (.ref oa), .val (.int xa), .val (.int (15 : Int32)), .val (.int (own_v10_87_3 xa)), .val (.int (own_v10_57_3 xa LS))] [(.ref oe), (.int nd)])) ?_ (st335)
                refine own_go (T' := T335) (f' := (mkF m 100 #[.val (.ref oa), .val (.int xa), .val (.int (15 : Int32)), .val (.int (own_v10_87_3 xa)), .val (.int (own_v10_57_3 xa LS))] [(.int (4 : Int32)), (.int nd)])) ?_ (own_len X335 hx hZ e335 fa27 (g := (mkF m 99 #[.val (.ref oa), .val (.int xa), .val (.int (15 : Int32)), .val (.int (own_v10_87_3 xa)), .val (.int (own_v10_57_3 xa LS))] [(.ref oe), (.int nd)])) rfl rfl (hb hby own_d10_99))
                have hk100_336 : ¬ (nd = (4 : Int32)) := (own_nd4 hv hb_)
                refine own_go (T' := T335) (f' := (mkF m 154 #[.val (.ref oa), .val (.int xa), .val (.int (15 : Int32)), .val (.int (own_v10_87_3 xa)), .val (.int (own_v10_57_3 xa LS))] [])) ?_ (fun _ k => XS.icmpYes X335.here hx rfl (pc0 := 100) (pc' := 154) rfl (hb hby own_d10_100) rfl (feq hk100_336).2 (by decide) (by decide) k)
                refine own_go (T' := T335) (f' := (mkF m 155 #[.val (.ref oa), .val (.int xa), .val (.int (15 : Int32)), .val (.int (own_v10_87_3 xa)), .val (.int (own_v10_57_3 xa LS))] [(.ref oa)])) ?_ (fun _ k => XS.aloadN X335.here hx rfl (hb hby own_d10_154) rfl rfl k)
                obtain ⟨T337, X337, e337, st337⟩ := getF X335 hx hZ hown (host := "") (Or.inl (hw _ (List.mem_of_getElem? (i := 10) rfl))) Via.refl e335 fa20 (g := (mkF m 155 #[.val (.ref oa), .val (.int xa), .val (.int (15 : Int32)), .val (.int (own_v10_87_3 xa)), .val (.int (own_v10_57_3 xa LS))] [(.ref oa)])) rfl rfl (hb hby own_d10_155)
                refine own_go (T' := T337) (f' := (mkF m 158 #[.val (.ref oa), .val (.int xa), .val (.int (15 : Int32)), .val (.int (own_v10_87_3 xa)), .val (.int (own_v10_57_3 xa LS))] [(.ref oe)])) ?_ (st337)
                refine own_go (T' := T337) (f' := (mkF m 159 #[.val (.ref oa), .val (.int xa), .val (.int (15 : Int32)), .val (.int (own_v10_87_3 xa)), .val (.int (own_v10_57_3 xa LS))] [(.ref oa), (.ref oe)])) ?_ (fun _ k => XS.aloadN X337.here hx rfl (hb hby own_d10_158) rfl rfl k)
                obtain ⟨T338, X338, e338, st338⟩ := getF X337 hx hZ hown (host := "") (Or.inl (hw _ (List.mem_of_getElem? (i := 24) rfl))) Via.refl e337 fa24 (g := (mkF m 159 #[.val (.ref oa), .val (.int xa), .val (.int (15 : Int32)), .val (.int (own_v10_87_3 xa)), .val (.int (own_v10_57_3 xa LS))] [(.ref oa), (.ref oe)])) rfl rfl (hb hby own_d10_159)
                refine own_go (T' := T338) (f' := (mkF m 162 #[.val (.ref oa), .val (.int xa), .val (.int (15 : Int32)), .val (.int (own_v10_87_3 xa)), .val (.int (own_v10_57_3 xa LS))] [(.int nd), (.ref oe)])) ?_ (st338)
                refine own_go (T' := T338) (f' := (mkF m 163 #[.val (.ref oa), .val (.int xa), .val (.int (15 : Int32)), .val (.int (own_v10_87_3 xa)), .val (.int (own_v10_57_3 xa LS))] [(.int xa), (.int nd), (.ref oe)])) ?_ (fun _ k => XS.iloadN X338.here hx rfl (hb hby own_d10_162) rfl  k)
                obtain ⟨T339, h339, X339, e339, W339, F339, st339⟩ := own_stI X338 hx hZ e338 fa27 (j := nd) (own_ndi hv hb_) (g := (mkF m 163 #[.val (.ref oa), .val (.int xa), .val (.int (15 : Int32)), .val (.int (own_v10_87_3 xa)), .val (.int (own_v10_57_3 xa LS))] [(.int xa), (.int nd), (.ref oe)])) rfl rfl (hb hby own_d10_163)
                have fa340 := fa19.wr W339
                have fa341 := fa20.other W339 (Or.inl ne_oa_oe)
                have fa342 := fa21.other W339 (Or.inl ne_oa_oe)
                have fa343 := fa22.other W339 (Or.inl ne_oa_oe)
                have fa344 := fa23.other W339 (Or.inl ne_oa_oe)
                have fa345 := fa24.other W339 (Or.inl ne_oa_oe)
                have fa346 := fa26.other W339 (Or.inl ne_oa_oe)
                have fa348 := fa28.other W339 (Ne.symm ne_oe_oc)
                have fa349 := fa29.other W339 (Ne.symm ne_oe_oo)
                have fa350 := fa30.other W339 (Ne.symm ne_oe_os)
                have fa351 := Fw18.other W339 (Or.inl ne_oa_oe)
                have Fw339 : own_AI Z h339 oe .int (4 : Int32) (LE.set (nd).toNatClampNeg xa) := F339
                have N339 := Fr.snoc X339 N18 g_oe
                have KK339 : Keep h0 h339 [oa, oe, oc, oo, os] := KK18.wr W339 (Or.inl (List.mem_of_getElem? (i := 1) rfl))
                have ZZ339 : n0 ≤ h339.size := Nat.le_trans ZZ18 (Keep.of_wr W339).1
                refine own_go (T' := T339) (f' := (mkF m 164 #[.val (.ref oa), .val (.int xa), .val (.int (15 : Int32)), .val (.int (own_v10_87_3 xa)), .val (.int (own_v10_57_3 xa LS))] [])) ?_ (st339)
                refine own_go (T' := T339) (f' := (mkF m 165 #[.val (.ref oa), .val (.int xa), .val (.int (15 : Int32)), .val (.int (own_v10_87_3 xa)), .val (.int (own_v10_57_3 xa LS))] [(.ref oa)])) ?_ (fun _ k => XS.aloadN X339.here hx rfl (hb hby own_d10_164) rfl rfl k)
                obtain ⟨T352, X352, e352, st352⟩ := getF X339 hx hZ hown (host := "") (Or.inl (hw _ (List.mem_of_getElem? (i := 13) rfl))) Via.refl e339 fa342 (g := (mkF m 165 #[.val (.ref oa), .val (.int xa), .val (.int (15 : Int32)), .val (.int (own_v10_87_3 xa)), .val (.int (own_v10_57_3 xa LS))] [(.ref oa)])) rfl rfl (hb hby own_d10_165)
                refine own_go (T' := T352) (f' := (mkF m 168 #[.val (.ref oa), .val (.int xa), .val (.int (15 : Int32)), .val (.int (own_v10_87_3 xa)), .val (.int (own_v10_57_3 xa LS))] [(.ref oc)])) ?_ (st352)
                refine own_go (T' := T352) (f' := (mkF m 169 #[.val (.ref oa), .val (.int xa), .val (.int (15 : Int32)), .val (.int (own_v10_87_3 xa)), .val (.int (own_v10_57_3 xa LS))] [(.ref oa), (.ref oc)])) ?_ (fun _ k => XS.aloadN X352.here hx rfl (hb hby own_d10_168) rfl rfl k)
                obtain ⟨T353, X353, e353, st353⟩ := getF X352 hx hZ hown (host := "") (Or.inl (hw _ (List.mem_of_getElem? (i := 24) rfl))) Via.refl e352 fa345 (g := (mkF m 169 #[.val (.ref oa), .val (.int xa), .val (.int (15 : Int32)), .val (.int (own_v10_87_3 xa)), .val (.int (own_v10_57_3 xa LS))] [(.ref oa), (.ref oc)])) rfl rfl (hb hby own_d10_169)
                refine own_go (T' := T353) (f' := (mkF m 172 #[.val (.ref oa), .val (.int xa), .val (.int (15 : Int32)), .val (.int (own_v10_87_3 xa)), .val (.int (own_v10_57_3 xa LS))] [(.int nd), (.ref oc)])) ?_ (st353)
                refine own_go (T' := T353) (f' := (mkF m 173 #[.val (.ref oa), .val (.int xa), .val (.int (15 : Int32)), .val (.int (own_v10_87_3 xa)), .val (.int (own_v10_57_3 xa LS))] [(.long (1 : Int64)), (.int nd), (.ref oc)])) ?_ (fun _ k => XS.lconst X353.here hx rfl (hb hby own_d10_172) k)
                obtain ⟨T354, h354, X354, e354, W354, F354, st354⟩ := own_stJ X353 hx hZ e353 fa348 (j := nd) (own_ndi hv hb_) (g := (mkF m 173 #[.val (.ref oa), .val (.int xa), .val (.int (15 : Int32)), .val (.int (own_v10_87_3 xa)), .val (.int (own_v10_57_3 xa LS))] [(.long (1 : Int64)), (.int nd), (.ref oc)])) rfl rfl (hb hby own_d10_173)
                have fa355 := fa340.wr W354
                have fa356 := fa341.other W354 (Or.inl ne_oa_oc)
                have fa357 := fa342.other W354 (Or.inl ne_oa_oc)
                have fa358 := fa343.other W354 (Or.inl ne_oa_oc)
                have fa359 := fa344.other W354 (Or.inl ne_oa_oc)
                have fa360 := fa345.other W354 (Or.inl ne_oa_oc)
                have fa361 := fa346.other W354 (Or.inl ne_oa_oc)
                have fa363 := fa349.other W354 (Ne.symm ne_oc_oo)
                have fa364 := fa350.other W354 (Ne.symm ne_oc_os)
                have fa365 := fa351.other W354 (Or.inl ne_oa_oc)
                have fa366 := Fw339.other W354 ne_oe_oc
                have Fw354 : own_AJ Z h354 oc (4 : Int32) (LC.set (nd).toNatClampNeg (1 : Int64)) := F354
                have N354 := Fr.snoc X354 N339 g_oc
                have KK354 : Keep h0 h354 [oa, oe, oc, oo, os] := KK339.wr W354 (Or.inl (List.mem_of_getElem? (i := 2) rfl))
                have ZZ354 : n0 ≤ h354.size := Nat.le_trans ZZ339 (Keep.of_wr W354).1
                refine own_go (T' := T354) (f' := (mkF m 174 #[.val (.ref oa), .val (.int xa), .val (.int (15 : Int32)), .val (.int (own_v10_87_3 xa)), .val (.int (own_v10_57_3 xa LS))] [])) ?_ (st354)
                refine own_go (T' := T354) (f' := (mkF m 175 #[.val (.ref oa), .val (.int xa), .val (.int (15 : Int32)), .val (.int (own_v10_87_3 xa)), .val (.int (own_v10_57_3 xa LS))] [(.ref oa)])) ?_ (fun _ k => XS.aloadN X354.here hx rfl (hb hby own_d10_174) rfl rfl k)
                obtain ⟨T367, X367, e367, st367⟩ := getF X354 hx hZ hown (host := "") (Or.inl (hw _ (List.mem_of_getElem? (i := 15) rfl))) Via.refl e354 fa358 (g := (mkF m 175 #[.val (.ref oa), .val (.int xa), .val (.int (15 : Int32)), .val (.int (own_v10_87_3 xa)), .val (.int (own_v10_57_3 xa LS))] [(.ref oa)])) rfl rfl (hb hby own_d10_175)
                refine own_go (T' := T367) (f' := (mkF m 178 #[.val (.ref oa), .val (.int xa), .val (.int (15 : Int32)), .val (.int (own_v10_87_3 xa)), .val (.int (own_v10_57_3 xa LS))] [(.ref oo)])) ?_ (st367)
                refine own_go (T' := T367) (f' := (mkF m 179 #[.val (.ref oa), .val (.int xa), .val (.int (15 : Int32)), .val (.int (own_v10_87_3 xa)), .val (.int (own_v10_57_3 xa LS))] [(.ref oa), (.ref oo)])) ?_ (fun _ k => XS.aloadN X367.here hx rfl (hb hby own_d10_178) rfl rfl k)
                obtain ⟨T368, X368, e368, st368⟩ := getF X367 hx hZ hown (host := "") (Or.inl (hw _ (List.mem_of_getElem? (i := 24) rfl))) Via.refl e367 fa360 (g := (mkF m 179 #[.val (.ref oa), .val (.int xa), .val (.int (15 : Int32)), .val (.int (own_v10_87_3 xa)), .val (.int (own_v10_57_3 xa LS))] [(.ref oa), (.ref oo)])) rfl rfl (hb hby own_d10_179)
                refine own_go (T' := T368) (f' := (mkF m 182 #[.val (.ref oa), .val (.int xa), .val (.int (15 : Int32)), .val (.int (own_v10_87_3 xa)), .val (.int (own_v10_57_3 xa LS))] [(.int nd), (.ref oo)])) ?_ (st368)
                refine own_go (T' := T368) (f' := (mkF m 183 #[.val (.ref oa), .val (.int xa), .val (.int (15 : Int32)), .val (.int (own_v10_87_3 xa)), .val (.int (own_v10_57_3 xa LS))] [(.int (own_v10_87_3 xa)), (.int nd), (.ref oo)])) ?_ (fun _ k => XS.iloadN X368.here hx rfl (hb hby own_d10_182) rfl  k)
                obtain ⟨T369, h369, X369, e369, W369, F369, st369⟩ := own_stI X368 hx hZ e368 fa363 (j := nd) (own_ndi hv hb_) (g := (mkF m 183 #[.val (.ref oa), .val (.int xa), .val (.int (15 : Int32)), .val (.int (own_v10_87_3 xa)), .val (.int (own_v10_57_3 xa LS))] [(.int (own_v10_87_3 xa)), (.int nd), (.ref oo)])) rfl rfl (hb hby own_d10_183)
                have fa370 := fa355.wr W369
                have fa371 := fa356.other W369 (Or.inl ne_oa_oo)
                have fa372 := fa357.other W369 (Or.inl ne_oa_oo)
                have fa373 := fa358.other W369 (Or.inl ne_oa_oo)
                have fa374 := fa359.other W369 (Or.inl ne_oa_oo)
                have fa375 := fa360.other W369 (Or.inl ne_oa_oo)
                have fa376 := fa361.other W369 (Or.inl ne_oa_oo)
                have fa378 := fa364.other W369 (Ne.symm ne_oo_os)
                have fa379 := fa365.other W369 (Or.inl ne_oa_oo)
                have fa380 := fa366.other W369 ne_oe_oo
                have fa381 := Fw354.other W369 ne_oc_oo
                have Fw369 : own_AI Z h369 oo .int (4 : Int32) (LO.set (nd).toNatClampNeg (own_v10_87_3 xa)) := F369
                have N369 := Fr.snoc X369 N354 g_oo
                have KK369 : Keep h0 h369 [oa, oe, oc, oo, os] := KK354.wr W369 (Or.inl (List.mem_of_getElem? (i := 3) rfl))
                have ZZ369 : n0 ≤ h369.size := Nat.le_trans ZZ354 (Keep.of_wr W369).1
                refine own_go (T' := T369) (f' := (mkF m 184 #[.val (.ref oa), .val (.int xa), .val (.int (15 : Int32)), .val (.int (own_v10_87_3 xa)), .val (.int (own_v10_57_3 xa LS))] [])) ?_ (st369)
                refine own_go (T' := T369) (f' := (mkF m 185 #[.val (.ref oa), .val (.int xa), .val (.int (15 : Int32)), .val (.int (own_v10_87_3 xa)), .val (.int (own_v10_57_3 xa LS))] [(.ref oa)])) ?_ (fun _ k => XS.aloadN X369.here hx rfl (hb hby own_d10_184) rfl rfl k)
                obtain ⟨T382, X382, e382, st382⟩ := getF X369 hx hZ hown (host := "") (Or.inl (hw _ (List.mem_of_getElem? (i := 17) rfl))) Via.refl e369 fa374 (g := (mkF m 185 #[.val (.ref oa), .val (.int xa), .val (.int (15 : Int32)), .val (.int (own_v10_87_3 xa)), .val (.int (own_v10_57_3 xa LS))] [(.ref oa)])) rfl rfl (hb hby own_d10_185)
                refine own_go (T' := T382) (f' := (mkF m 188 #[.val (.ref oa), .val (.int xa), .val (.int (15 : Int32)), .val (.int (own_v10_87_3 xa)), .val (.int (own_v10_57_3 xa LS))] [(.ref os)])) ?_ (st382)
                refine own_go (T' := T382) (f' := (mkF m 189 #[.val (.ref oa), .val (.int xa), .val (.int (15 : Int32)), .val (.int (own_v10_87_3 xa)), .val (.int (own_v10_57_3 xa LS))] [(.int (own_v10_87_3 xa)), (.ref os)])) ?_ (fun _ k => XS.iloadN X382.here hx rfl (hb hby own_d10_188) rfl  k)
                refine own_go (T' := T382) (f' := (mkF m 190 #[.val (.ref oa), .val (.int xa), .val (.int (15 : Int32)), .val (.int (own_v10_87_3 xa)), .val (.int (own_v10_57_3 xa LS))] [(.ref oa), (.int (own_v10_87_3 xa)), (.ref os)])) ?_ (fun _ k => XS.aloadN X382.here hx rfl (hb hby own_d10_189) rfl rfl k)
                refine own_go (T' := T382) (f' := (mkF m 191 #[.val (.ref oa), .val (.int xa), .val (.int (15 : Int32)), .val (.int (own_v10_87_3 xa)), .val (.int (own_v10_57_3 xa LS))] [(.ref oa), (.ref oa), (.int (own_v10_87_3 xa)), (.ref os)])) ?_ (fun _ k => XS.dup X382.here hx rfl (hb hby own_d10_190) rfl rfl k)
                obtain ⟨T383, X383, e383, st383⟩ := getF X382 hx hZ hown (host := "") (Or.inl (hw _ (List.mem_of_getElem? (i := 24) rfl))) Via.refl e382 fa375 (g := (mkF m 191 #[.val (.ref oa), .val (.int xa), .val (.int (15 : Int32)), .val (.int (own_v10_87_3 xa)), .val (.int (own_v10_57_3 xa LS))] [(.ref oa), (.ref oa), (.int (own_v10_87_3 xa)), (.ref os)])) rfl rfl (hb hby own_d10_191)
                refine own_go (T' := T383) (f' := (mkF m 194 #[.val (.ref oa), .val (.int xa), .val (.int (15 : Int32)), .val (.int (own_v10_87_3 xa)), .val (.int (own_v10_57_3 xa LS))] [(.int nd), (.ref oa), (.int (own_v10_87_3 xa)), (.ref os)])) ?_ (st383)
                refine own_go (T' := T383) (f' := (mkF m 195 #[.val (.ref oa), .val (.int xa), .val (.int (15 : Int32)), .val (.int (own_v10_87_3 xa)), .val (.int (own_v10_57_3 xa LS))] [(.int (1 : Int32)), (.int nd), (.ref oa), (.int (own_v10_87_3 xa)), (.ref os)])) ?_ (fun _ k => XS.iconst X383.here hx rfl (hb hby own_d10_194) k)
                refine own_go (T' := T383) (f' := (mkF m 196 #[.val (.ref oa), .val (.int xa), .val (.int (15 : Int32)), .val (.int (own_v10_87_3 xa)), .val (.int (own_v10_57_3 xa LS))] [(.int (nd + (1 : Int32))), (.ref oa), (.int (own_v10_87_3 xa)), (.ref os)])) ?_ (fun _ k => XS.iadd X383.here hx rfl (hb hby own_d10_195) rfl k)
                refine own_go (T' := T383) (f' := (mkF m 197 #[.val (.ref oa), .val (.int xa), .val (.int (15 : Int32)), .val (.int (own_v10_87_3 xa)), .val (.int (own_v10_57_3 xa LS))] [(.int (nd + (1 : Int32))), (.ref oa), (.int (nd + (1 : Int32))), (.int (own_v10_87_3 xa)), (.ref os)])) ?_ (fun _ k => XS.dupX1 X383.here hx rfl (hb hby own_d10_196) rfl rfl rfl k)
                obtain ⟨T384, h384, X384, e384, W384, st384⟩ := putF X383 hx hZ hown (host := "") (Or.inl (hw _ (List.mem_of_getElem? (i := 24) rfl))) Via.refl e383 fa375 fa370 (Or.inl (hw _ (List.mem_of_getElem? (i := 25) rfl))) (hw _ (List.mem_of_getElem? (i := 1) rfl)) (ty := .int) (by decide) rfl rfl (g := (mkF m 197 #[.val (.ref oa), .val (.int xa), .val (.int (15 : Int32)), .val (.int (own_v10_87_3 xa)), .val (.int (own_v10_57_3 xa LS))] [(.int (nd + (1 : Int32))), (.ref oa), (.int (nd + (1 : Int32))), (.int (own_v10_87_3 xa)), (.ref os)])) rfl rfl (hb hby own_d10_197)
                have fa385 := fa370.wr W384
                have fa386 := fa371.other W384 (Or.inr (slot_ne (Or.inl (hw _ (List.mem_of_getElem? (i := 11) rfl))) (Or.inl (hw _ (List.mem_of_getElem? (i := 25) rfl))) (by decide) (t := (.array .int)) (t' := .int) (by decide) (by decide)))
                have fa387 := fa372.other W384 (Or.inr (slot_ne (Or.inl (hw _ (List.mem_of_getElem? (i := 14) rfl))) (Or.inl (hw _ (List.mem_of_getElem? (i := 25) rfl))) (by decide) (t := (.array .long)) (t' := .int) (by decide) (by decide)))
                have fa388 := fa373.other W384 (Or.inr (slot_ne (Or.inl (hw _ (List.mem_of_getElem? (i := 16) rfl))) (Or.inl (hw _ (List.mem_of_getElem? (i := 25) rfl))) (by decide) (t := (.array .int)) (t' := .int) (by decide) (by decide)))
                have fa389 := fa374.other W384 (Or.inr (slot_ne (Or.inl (hw _ (List.mem_of_getElem? (i := 18) rfl))) (Or.inl (hw _ (List.mem_of_getElem? (i := 25) rfl))) (by decide) (t := (.array .int)) (t' := .int) (by decide) (by decide)))
                have fa391 := fa376.other W384 (Or.inr (slot_ne (Or.inl (hw _ (List.mem_of_getElem? (i := 29) rfl))) (Or.inl (hw _ (List.mem_of_getElem? (i := 25) rfl))) (by decide) (t := .long) (t' := .int) (by decide) (by decide)))
                have fa392 := fa378.other W384 (Ne.symm ne_oa_os)
                have fa393 := fa379.other W384 (Or.inr (slot_ne (Or.inl (hw _ (List.mem_of_getElem? (i := 27) rfl))) (Or.inl (hw _ (List.mem_of_getElem? (i := 25) rfl))) (by decide) (t := .long) (t' := .int) (by decide) (by decide)))
                have fa394 := fa380.other W384 (Ne.symm ne_oa_oe)
                have fa395 := fa381.other W384 (Ne.symm ne_oa_oc)
                have fa396 := Fw369.other W384 (Ne.symm ne_oa_oo)
                have Fw384 := fa375.same W384
                have N384 := Fr.snoc X384 N369 g_oa
                have KK384 : Keep h0 h384 [oa, oe, oc, oo, os] := KK369.wr W384 (Or.inl (List.mem_of_getElem? (i := 0) rfl))
                have ZZ384 : n0 ≤ h384.size := Nat.le_trans ZZ369 (Keep.of_wr W384).1
                refine own_go (T' := T384) (f' := (mkF m 200 #[.val (.ref oa), .val (.int xa), .val (.int (15 : Int32)), .val (.int (own_v10_87_3 xa)), .val (.int (own_v10_57_3 xa LS))] [(.int (nd + (1 : Int32))), (.int (own_v10_87_3 xa)), (.ref os)])) ?_ (st384)
                obtain ⟨T397, h397, X397, e397, W397, F397, st397⟩ := own_stI X384 hx hZ e384 fa392 (j := (own_v10_87_3 xa)) (own_h15 _) (g := (mkF m 200 #[.val (.ref oa), .val (.int xa), .val (.int (15 : Int32)), .val (.int (own_v10_87_3 xa)), .val (.int (own_v10_57_3 xa LS))] [(.int (nd + (1 : Int32))), (.int (own_v10_87_3 xa)), (.ref os)])) rfl rfl (hb hby own_d10_200)
                have fa398 := fa385.wr W397
                have fa399 := fa386.other W397 (Or.inl ne_oa_os)
                have fa400 := fa387.other W397 (Or.inl ne_oa_os)
                have fa401 := fa388.other W397 (Or.inl ne_oa_os)
                have fa402 := fa389.other W397 (Or.inl ne_oa_os)
                have fa403 := fa391.other W397 (Or.inl ne_oa_os)
                have fa405 := fa393.other W397 (Or.inl ne_oa_os)
                have fa406 := fa394.other W397 ne_oe_os
                have fa407 := fa395.other W397 ne_oc_os
                have fa408 := fa396.other W397 ne_oo_os
                have fa409 := Fw384.other W397 (Or.inl ne_oa_os)
                have Fw397 : own_AI Z h397 os .int (16 : Int32) (LS.set ((own_v10_87_3 xa)).toNatClampNeg (nd + (1 : Int32))) := F397
                have N397 := Fr.snoc X397 N384 g_os
                have KK397 : Keep h0 h397 [oa, oe, oc, oo, os] := KK384.wr W397 (Or.inl (List.mem_of_getElem? (i := 4) rfl))
                have ZZ397 : n0 ≤ h397.size := Nat.le_trans ZZ384 (Keep.of_wr W397).1
                refine own_go (T' := T397) (f' := (mkF m 201 #[.val (.ref oa), .val (.int xa), .val (.int (15 : Int32)), .val (.int (own_v10_87_3 xa)), .val (.int (own_v10_57_3 xa LS))] [])) ?_ (st397)
                refine own_go (T' := T397) (f' := (mkF m 202 #[.val (.ref oa), .val (.int xa), .val (.int (15 : Int32)), .val (.int (own_v10_87_3 xa)), .val (.int (own_v10_57_3 xa LS))] [(.int (2 : Int32))])) ?_ (fun _ k => XS.iconst X397.here hx rfl (hb hby own_d10_201) k)
                refine own_go (T' := T397) (f' := (mkF m 203 #[.val (.ref oa), .val (.int xa), .val (.int (15 : Int32)), .val (.int (own_v10_87_3 xa)), .val (.int (own_v10_57_3 xa LS))] [(.ref oa), (.int (2 : Int32))])) ?_ (fun _ k => XS.aloadN X397.here hx rfl (hb hby own_d10_202) rfl rfl k)
                obtain ⟨T410, X410, e410, st410⟩ := getF X397 hx hZ hown (host := "") (Or.inl (hw _ (List.mem_of_getElem? (i := 24) rfl))) Via.refl e397 fa409 (g := (mkF m 203 #[.val (.ref oa), .val (.int xa), .val (.int (15 : Int32)), .val (.int (own_v10_87_3 xa)), .val (.int (own_v10_57_3 xa LS))] [(.ref oa), (.int (2 : Int32))])) rfl rfl (hb hby own_d10_203)
                refine own_go (T' := T410) (f' := (mkF m 206 #[.val (.ref oa), .val (.int xa), .val (.int (15 : Int32)), .val (.int (own_v10_87_3 xa)), .val (.int (own_v10_57_3 xa LS))] [(.int (nd + (1 : Int32))), (.int (2 : Int32))])) ?_ (st410)
                refine own_go (T' := T410) (f' := (mkF m 207 #[.val (.ref oa), .val (.int xa), .val (.int (15 : Int32)), .val (.int (own_v10_87_3 xa)), .val (.int (own_v10_57_3 xa LS))] [(.int ((2 : Int32) * (nd + (1 : Int32))))])) ?_ (fun _ k => XS.imul X410.here hx rfl (hb hby own_d10_206) rfl k)
                refine own_go (T' := T410) (f' := (mkF m 208 #[.val (.ref oa), .val (.int xa), .val (.int (15 : Int32)), .val (.int (own_v10_87_3 xa)), .val (.int (own_v10_57_3 xa LS))] [(.ref oa), (.int ((2 : Int32) * (nd + (1 : Int32))))])) ?_ (fun _ k => XS.aloadN X410.here hx rfl (hb hby own_d10_207) rfl rfl k)
                obtain ⟨T411, X411, e411, st411⟩ := getF X410 hx hZ hown (host := "") (Or.inl (hw _ (List.mem_of_getElem? (i := 17) rfl))) Via.refl e410 fa402 (g := (mkF m 208 #[.val (.ref oa), .val (.int xa), .val (.int (15 : Int32)), .val (.int (own_v10_87_3 xa)), .val (.int (own_v10_57_3 xa LS))] [(.ref oa), (.int ((2 : Int32) * (nd + (1 : Int32))))])) rfl rfl (hb hby own_d10_208)
                refine own_go (T' := T411) (f' := (mkF m 211 #[.val (.ref oa), .val (.int xa), .val (.int (15 : Int32)), .val (.int (own_v10_87_3 xa)), .val (.int (own_v10_57_3 xa LS))] [(.ref os), (.int ((2 : Int32) * (nd + (1 : Int32))))])) ?_ (st411)
                refine own_go (T' := T411) (f' := (mkF m 212 #[.val (.ref oa), .val (.int xa), .val (.int (15 : Int32)), .val (.int (own_v10_87_3 xa)), .val (.int (own_v10_57_3 xa LS))] [(.int (16 : Int32)), (.int ((2 : Int32) * (nd + (1 : Int32))))])) ?_ (own_len X411 hx hZ e411 Fw397 (g := (mkF m 211 #[.val (.ref oa), .val (.int xa), .val (.int (15 : Int32)), .val (.int (own_v10_87_3 xa)), .val (.int (own_v10_57_3 xa LS))] [(.ref os), (.int ((2 : Int32) * (nd + (1 : Int32))))])) rfl rfl (hb hby own_d10_211))
                have hk212_412 : ¬ ((16 : Int32) < ((2 : Int32) * (nd + (1 : Int32)))) := (own_nd16 hv hb_)
                refine own_go (T' := T411) (f' := (mkF m 219 #[.val (.ref oa), .val (.int xa), .val (.int (15 : Int32)), .val (.int (own_v10_87_3 xa)), .val (.int (own_v10_57_3 xa LS))] [])) ?_ (fun _ k => XS.icmpYes X411.here hx rfl (pc0 := 212) (pc' := 219) rfl (hb hby own_d10_212) rfl (flt hk212_412).2.2.2 (by decide) (by decide) k)
                obtain ⟨fs413, hr413, hrun413, hended413, hW413, hsame413⟩ := X411.leave (v := none) (fun _ => rfl)
                refine ⟨_, ⟨_, hrun413, hended413, _, _, rfl, ?_, ⟨_, rfl⟩, hW413, hsame413.mono (by decide) (by decide)⟩, fun _ k => (X411.returnOut hx Bd.returns (hb hby own_d10_219) hr413).trans k⟩
                show own_Q10 Z oa xa oe oc oo os nd tt ig LE LC LO LS bb h0 n0 _ T411.heap _
                rw [e411]
                exact ⟨(nd + (1 : Int32)), (tt + (1 : Int64)), ig, (LE.set (nd).toNatClampNeg xa), (LC.set (nd).toNatClampNeg (1 : Int64)), (LO.set (nd).toNatClampNeg (own_v10_87_3 xa)), (LS.set ((own_v10_87_3 xa)).toNatClampNeg (nd + (1 : Int32))), rfl, N397, KK397, fa399, fa400, fa401, fa402, fa409, fa405, fa403, fa406, fa407, fa408, Fw397, (own_inv_ins hv hb_ hk46_333 (own_h15 _) A_oo A_os), (own_spec_far hc1_1 hc46_33 (own_h15 _))⟩
theorem own_all16 : ∀ k, k < 16 → ([(0 : Int32), (0 : Int32), (0 : Int32), (0 : Int32), (0 : Int32), (0 : Int32), (0 : Int32), (0 : Int32), (0 : Int32), (0 : Int32), (0 : Int32), (0 : Int32), (0 : Int32), (0 : Int32), (0 : Int32), (0 : Int32)] : List Int32).getD k 0 = 0 := by decide
theorem own_inv1 (LO : List Int32) : own_inv 0 (0 : Int32) LO [(0 : Int32), (0 : Int32), (0 : Int32), (0 : Int32), (0 : Int32), (0 : Int32), (0 : Int32), (0 : Int32), (0 : Int32), (0 : Int32), (0 : Int32), (0 : Int32), (0 : Int32), (0 : Int32), (0 : Int32), (0 : Int32)] := ⟨0, rfl, Nat.le_refl _, fun i h => absurd h (Nat.not_lt_zero _), fun k hk h => absurd (own_all16 k hk) h⟩
theorem own_inv0 : own_inv 0 (0 : Int32) [(0 : Int32), (0 : Int32), (0 : Int32), (0 : Int32)] [(0 : Int32), (0 : Int32), (0 : Int32), (0 : Int32), (0 : Int32), (0 : Int32), (0 : Int32), (0 : Int32), (0 : Int32), (0 : Int32), (0 : Int32), (0 : Int32), (0 : Int32), (0 : Int32), (0 : Int32), (0 : Int32)] := own_inv1 _
theorem own_k1 {x : Int32} (h : ¬ ((0 : Int32) < x)) : ¬ ((1 : Int32) < x) := by
  rw [own_lt32] at h ⊢; rw [show (0 : Int32).toInt = 0 from rfl] at h; rw [show (1 : Int32).toInt = 1 from rfl]; omega
theorem own_k2 {x : Int32} (h : ¬ ((1 : Int32) < x)) : ¬ ((2 : Int32) < x) := by
  rw [own_lt32] at h ⊢; rw [show (1 : Int32).toInt = 1 from rfl] at h; rw [show (2 : Int32).toInt = 2 from rfl]; omega
section OwnT
variable {x nd_ : Int32} {tt_ ig_ : Int64} {LE_ : List Int32} {LC_ : List Int64}
theorem own_t_ign (h : own_spec x (0 : Int32) (0 : Int64) (0 : Int64) [(0 : Int32), (0 : Int32), (0 : Int32), (0 : Int32), (0 : Int32), (0 : Int32), (0 : Int32), (0 : Int32), (0 : Int32), (0 : Int32), (0 : Int32), (0 : Int32), (0 : Int32), (0 : Int32), (0 : Int32), (0 : Int32)] nd_ tt_ ig_ LE_ LC_) (q : x < (0 : Int32)) : (lcmpW (own_f4 ig_) (1 : Int64)) = (0 : Int32) := (lw_eq _ _).mpr ((h.1 q).2.2.trans (by decide))
theorem own_t_tot0 (h : own_spec x (0 : Int32) (0 : Int64) (0 : Int64) [(0 : Int32), (0 : Int32), (0 : Int32), (0 : Int32), (0 : Int32), (0 : Int32), (0 : Int32), (0 : Int32), (0 : Int32), (0 : Int32), (0 : Int32), (0 : Int32), (0 : Int32), (0 : Int32), (0 : Int32), (0 : Int32)] nd_ tt_ ig_ LE_ LC_) (q : x < (0 : Int32)) : (lcmpW (own_f3 tt_) (0 : Int64)) = (0 : Int32) := (lw_eq _ _).mpr (h.1 q).2.1
theorem own_t_nd0 (h : own_spec x (0 : Int32) (0 : Int64) (0 : Int64) [(0 : Int32), (0 : Int32), (0 : Int32), (0 : Int32), (0 : Int32), (0 : Int32), (0 : Int32), (0 : Int32), (0 : Int32), (0 : Int32), (0 : Int32), (0 : Int32), (0 : Int32), (0 : Int32), (0 : Int32), (0 : Int32)] nd_ tt_ ig_ LE_ LC_) (q : x < (0 : Int32)) : (own_f2 nd_) = (0 : Int32) := (h.1 q).1
theorem own_t_nd1 (h : own_spec x (0 : Int32) (0 : Int64) (0 : Int64) [(0 : Int32), (0 : Int32), (0 : Int32), (0 : Int32), (0 : Int32), (0 : Int32), (0 : Int32), (0 : Int32), (0 : Int32), (0 : Int32), (0 : Int32), (0 : Int32), (0 : Int32), (0 : Int32), (0 : Int32), (0 : Int32)] nd_ tt_ ig_ LE_ LC_) (q : ¬ (x < (0 : Int32))) : (own_f2 nd_) = (1 : Int32) := ((h.2 q).2.2 rfl own_all16).1
theorem own_t_ev (h : own_spec x (0 : Int32) (0 : Int64) (0 : Int64) [(0 : Int32), (0 : Int32), (0 : Int32), (0 : Int32), (0 : Int32), (0 : Int32), (0 : Int32), (0 : Int32), (0 : Int32), (0 : Int32), (0 : Int32), (0 : Int32), (0 : Int32), (0 : Int32), (0 : Int32), (0 : Int32)] nd_ tt_ ig_ LE_ LC_) (q : ¬ (x < (0 : Int32))) : (own_f6 LE_) = x := ((h.2 q).2.2 rfl own_all16).2.1
theorem own_t_cnt (h : own_spec x (0 : Int32) (0 : Int64) (0 : Int64) [(0 : Int32), (0 : Int32), (0 : Int32), (0 : Int32), (0 : Int32), (0 : Int32), (0 : Int32), (0 : Int32), (0 : Int32), (0 : Int32), (0 : Int32), (0 : Int32), (0 : Int32), (0 : Int32), (0 : Int32), (0 : Int32)] nd_ tt_ ig_ LE_ LC_) (q : ¬ (x < (0 : Int32))) : (lcmpW (own_f7 LC_) (1 : Int64)) = (0 : Int32) := (lw_eq _ _).mpr ((h.2 q).2.2 rfl own_all16).2.2
theorem own_t_tot1 (h : own_spec x (0 : Int32) (0 : Int64) (0 : Int64) [(0 : Int32), (0 : Int32), (0 : Int32), (0 : Int32), (0 : Int32), (0 : Int32), (0 : Int32), (0 : Int32), (0 : Int32), (0 : Int32), (0 : Int32), (0 : Int32), (0 : Int32), (0 : Int32), (0 : Int32), (0 : Int32)] nd_ tt_ ig_ LE_ LC_) (q : ¬ (x < (0 : Int32))) : (lcmpW (own_f3 tt_) (1 : Int64)) = (0 : Int32) := (lw_eq _ _).mpr ((h.2 q).1.trans (by decide))
theorem own_t_ign0 (h : own_spec x (0 : Int32) (0 : Int64) (0 : Int64) [(0 : Int32), (0 : Int32), (0 : Int32), (0 : Int32), (0 : Int32), (0 : Int32), (0 : Int32), (0 : Int32), (0 : Int32), (0 : Int32), (0 : Int32), (0 : Int32), (0 : Int32), (0 : Int32), (0 : Int32), (0 : Int32)] nd_ tt_ ig_ LE_ LC_) (q : ¬ (x < (0 : Int32))) : (lcmpW (own_f4 ig_) (0 : Int64)) = (0 : Int32) := (lw_eq _ _).mpr (h.2 q).2.1
end OwnT

theorem own_pd0 : parseMethodDescriptor "()V" = some ⟨[], none⟩ := by decide +kernel
theorem own_pd1 : parseMethodDescriptor "(I)I" = some ⟨[.int], some .int⟩ := by decide +kernel
theorem own_pd2 : parseMethodDescriptor "(I)V" = some ⟨[.int], none⟩ := by decide +kernel
theorem own_pd3 : parseMethodDescriptor "()Z" = some ⟨[], some .boolean⟩ := by decide +kernel
theorem own_pd4 : parseMethodDescriptor "()J" = some ⟨[], some .long⟩ := by decide +kernel
theorem own_pd5 : parseMethodDescriptor "()I" = some ⟨[], some .int⟩ := by decide +kernel
theorem own_pd6 : parseMethodDescriptor "(I)J" = some ⟨[.int], some .long⟩ := by decide +kernel
def own_v0_80 (xe : Int32) : Int32 := (((xe.toUInt32 >>> ((2 : Int32) &&& 31).toUInt32).toInt32) &&& (3 : Int32))
def own_v0_84_s0 (xa : Int32) (xb : Int32) (xc : Int32) (xd : Int32) (xe : Int32) : Int32 := (if (own_v0_80 xe) = (0 : Int32) then xa else (if (own_v0_80 xe) = (1 : Int32) then xb else (if (own_v0_80 xe) = (2 : Int32) then xc else xd)))
theorem own_ef0 (m : MethodId) (xa : Int32) (xb : Int32) (xc : Int32) (xd : Int32) (xe : Int32) : entryFrame m #[(.int xa), (.int xb), (.int xc), (.int xd), (.int xe)] maxLocals = mkF m 0 #[.val (.int xa), .val (.int xb), .val (.int xc), .val (.int xd), .val (.int xe), .unset, .unset, .unset, .unset, .unset] [] := by first | (simp [entryFrame, mkF, argsToLocals, Value.category, maxLocals]; done) | rfl
def own_Q0 (Z : State) (xa : Int32) (xb : Int32) (xc : Int32) (xd : Int32) (xe : Int32) (h0 : Heap) (n0 : Nat) (v : Option Value) (h : Heap) (L : List Loc) : Prop := v = some (.int (1 : Int32)) ∧ Fr n0 L
set_option maxRecDepth 65536 in
set_option maxHeartbeats 40000000 in
theorem own_rm0 (l : Launch) (Z : State) (a0 : Array Value) (hw : ∀ d ∈ tables_1, d.before a0 Z = true) (ws : List Jvm.Cond) (xa : Int32) (xb : Int32) (xc : Int32) (xd : Int32) (xe : Int32) (h0 : Heap) (n0 : Nat) (Z0 : n0 ≤ h0.size) :
    MetFree l x (head1 (Jvm.Cond.code x code maxLocals ret :: ws) room_1) (fun a U => a = #[(.int xa), (.int xb), (.int xc), (.int xd), (.int xe)] ∧ Z.Warmed39 U.vm ∧ U.heap = h0) (fun _ _ _ _ _ => True) (fun _ U o U' => ∃ v L, o = .returned v ∧ own_Q0 Z xa xb xc xd xe h0 n0 v U'.heap L ∧ FrameEnd U o U' L 24 192) := by
  refine MetFree.of_bodySF (plainFor_of_name own_pn1) hisR ?_
  intro p e s m args below meth c s₁ Bd hml0 hP hK
  obtain ⟨rfl, hZ, hh⟩ := hP
  have hx := Bd.exec
  have hby := Bd.bytes
  have hml : c.maxLocals = 10 := hml0
  have hown : s.vm.findClass "com/example/monitorgen/monitorgen/trace/InstantClearPinLaw" = some m.cls := findClass_of_methodNamed Bd.named
  have hnm := (name_of_methodNamed Bd.named Bd.method).1
  have X0 : Stand p l e room_1 s m #[(.int xa), (.int xb), (.int xc), (.int xd), (.int xe)] below meth c s₁ [] 0 0 := Stand.of_body Bd
  have e0 : s₁.heap = h0 := by rw [← hh, Bd.state]; rfl
  have N0 := Fr.nil n0
  refine own_out (Q := fun o U' => ∃ v L, o = .returned v ∧ own_Q0 Z xa xb xc xd xe h0 n0 v U'.heap L ∧ FrameEnd s o U' L 24 192) ?_
  refine own_go (T' := s₁) (f' := (mkF m 0 #[.val (.int xa), .val (.int xb), .val (.int xc), .val (.int xd), .val (.int xe), .unset, .unset, .unset, .unset, .unset] [])) ?_ (fun _ k => castTop (own_ef0 m xa xb xc xd xe) k)
  obtain ⟨T1, h1, X1, e1, E1, A1, D1, -, st1⟩ := newO X0 hx hZ hown (hw _ (List.mem_of_getElem? (i := 0) rfl)) (hw _ (List.mem_of_getElem? (i := 1) rfl)) (hw _ (List.mem_of_getElem? (i := 2) rfl)) e0 (g := (mkF m 0 #[.val (.int xa), .val (.int xb), .val (.int xc), .val (.int xd), .val (.int xe), .unset, .unset, .unset, .unset, .unset] [])) rfl (hb hby at_0) (by decide) (by decide)
  obtain ⟨b1, g1⟩ : ∃ z, z = h0.size := ⟨_, rfl⟩
  rw [← g1] at A1 D1 st1
  have KK1 : Keep h0 h1 [] := (Keep.refl h0 []).ext E1
  have g_b1 : n0 ≤ b1 := Nat.le_trans Z0 (Nat.le_of_eq g1.symm)
  have sz_b1 : h0.size ≤ b1 := Nat.le_trans (Keep.refl h0 []).1 (Nat.le_of_eq g1.symm)
  have ZZ1 : n0 ≤ h1.size := Nat.le_trans Z0 E1.1
  have F1__events : Fld Z h1 b1 "com/example/monitorgen/monitorgen/trace/Instant" "_events" "[I" .null := D1 (Or.inl (hw _ (List.mem_of_getElem? (i := 11) rfl))) (ty := (.array .int)) (by decide)
  have F1__counts : Fld Z h1 b1 "com/example/monitorgen/monitorgen/trace/Instant" "_counts" "[J" .null := D1 (Or.inl (hw _ (List.mem_of_getElem? (i := 14) rfl))) (ty := (.array .long)) (by decide)
  have F1__slotOf : Fld Z h1 b1 "com/example/monitorgen/monitorgen/trace/Instant" "_slotOf" "[I" .null := D1 (Or.inl (hw _ (List.mem_of_getElem? (i := 16) rfl))) (ty := (.array .int)) (by decide)
  have F1__slots : Fld Z h1 b1 "com/example/monitorgen/monitorgen/trace/Instant" "_slots" "[I" .null := D1 (Or.inl (hw _ (List.mem_of_getElem? (i := 18) rfl))) (ty := (.array .int)) (by decide)
  have F1__distinct : Fld Z h1 b1 "com/example/monitorgen/monitorgen/trace/Instant" "_distinct" "I" (.int (0 : Int32)) := D1 (Or.inl (hw _ (List.mem_of_getElem? (i := 25) rfl))) (ty := .int) (by decide)
  have F1__total : Fld Z h1 b1 "com/example/monitorgen/monitorgen/trace/Instant" "_total" "J" (.long (0 : Int64)) := D1 (Or.inl (hw _ (List.mem_of_getElem? (i := 27) rfl))) (ty := .long) (by decide)
  have F1__ignored : Fld Z h1 b1 "com/example/monitorgen/monitorgen/trace/Instant" "_ignored" "J" (.long (0 : Int64)) := D1 (Or.inl (hw _ (List.mem_of_getElem? (i := 29) rfl))) (ty := .long) (by decide)
  refine own_go (T' := T1) (f' := (mkF m 3 #[.val (.int xa), .val (.int xb), .val (.int xc), .val (.int xd), .val (.int xe), .unset, .unset, .unset, .unset, .unset] [(.ref b1)])) ?_ (st1)
  refine own_go (T' := T1) (f' := (mkF m 4 #[.val (.int xa), .val (.int xb), .val (.int xc), .val (.int xd), .val (.int xe), .unset, .unset, .unset, .unset, .unset] [(.ref b1), (.ref b1)])) ?_ (fun _ k => XS.dup X1.here hx rfl (hb hby at_3) rfl rfl k)
  obtain ⟨_, _, ⟨T2, L2, k2, n2⟩, -, X2, ⟨Lc2, hQ2, l2, y2, z2⟩, st2⟩ := X1.specialBack hx (y := (⟨"com/example/monitorgen/monitorgen/trace/Instant", "<init>", "()V"⟩ : MethodName)) rfl hown (mvT hZ (hw _ (List.mem_of_getElem? (i := 3) rfl))) (mvT hZ (hw _ (List.mem_of_getElem? (i := 4) rfl))) (mvT hZ (hw _ (List.mem_of_getElem? (i := 5) rfl))) (by decide) (backOf (W := 1) (own_rm1 l Z a0 hw [] b1 h1 n0 ZZ1 A1 g_b1 F1__events F1__counts F1__slotOf F1__slots F1__distinct F1__total F1__ignored) hZ (hw _ (List.mem_of_getElem? (i := 5) rfl)) (hw _ (List.mem_of_getElem? (i := 2) rfl)) (by decide) (by decide)) (g := (mkF m 4 #[.val (.int xa), .val (.int xb), .val (.int xc), .val (.int xd), .val (.int xe), .unset, .unset, .unset, .unset, .unset] [(.ref b1), (.ref b1)])) rfl (by rw [hml]; rfl) (Steps.refl _) (a := b1) (argsL := []) (rest := [(.ref b1)]) (lenOf own_pd0 rfl) rfl (by show 2 * 0 + _ ≤ _; exact Nat.le_of_eq rfl) (hb hby at_4) (fun _ _ => ⟨rfl, e1, (by decide : 1 + 4 ≤ _), (by decide : 7 + 28 ≤ _)⟩)
  dsimp only [Pt.U, Pt.locs, Pt.cells, Pt.slots] at X2 l2 y2 z2 st2 hQ2
  subst y2 z2
  obtain ⟨oe_2, oc_2, oo_2, os_2, rfl, N2q, K2, P2_0, P2_1, P2_2, P2_3, P2_4, P2_5, P2_6, P2_7, P2_8, P2_9, P2_10, P2_11, P2_12, P2_13, P2_14, P2_15, P2_16, P2_17, P2_18, P2_19, P2_20, P2_21, P2_22, P2_23, P2_24⟩ := hQ2
  have fa3 := A1.keep K2
  have KK2 : Keep h0 T2.heap [] := KK1.trans K2 (allS (Or.inr sz_b1) all0)
  have ZZ2 : n0 ≤ T2.heap.size := Nat.le_trans ZZ1 K2.1
  have g_oe_2 : n0 ≤ oe_2 := Nat.le_trans ZZ1 P2_0
  have sz_oe_2 : h0.size ≤ oe_2 := Nat.le_trans KK1.1 P2_0
  have ne_b1_oe_2 : b1 ≠ oe_2 := Nat.ne_of_lt (Nat.lt_of_lt_of_le A1.lt P2_0)
  have g_oc_2 : n0 ≤ oc_2 := Nat.le_trans ZZ1 P2_1
  have sz_oc_2 : h0.size ≤ oc_2 := Nat.le_trans KK1.1 P2_1
  have ne_b1_oc_2 : b1 ≠ oc_2 := Nat.ne_of_lt (Nat.lt_of_lt_of_le A1.lt P2_1)
  have g_oo_2 : n0 ≤ oo_2 := Nat.le_trans ZZ1 P2_2
  have sz_oo_2 : h0.size ≤ oo_2 := Nat.le_trans KK1.1 P2_2
  have ne_b1_oo_2 : b1 ≠ oo_2 := Nat.ne_of_lt (Nat.lt_of_lt_of_le A1.lt P2_2)
  have g_os_2 : n0 ≤ os_2 := Nat.le_trans ZZ1 P2_3
  have sz_os_2 : h0.size ≤ os_2 := Nat.le_trans KK1.1 P2_3
  have ne_b1_os_2 : b1 ≠ os_2 := Nat.ne_of_lt (Nat.lt_of_lt_of_le A1.lt P2_3)
  have N2 : Fr n0 L2 := l2 ▸ Fr.app N0 N2q
  refine own_go (T' := T2) (f' := (mkF m 7 #[.val (.int xa), .val (.int xb), .val (.int xc), .val (.int xd), .val (.int xe), .unset, .unset, .unset, .unset, .unset] [(.ref b1)])) ?_ (fun _ k => st2.trans k)
  refine own_go (T' := T2) (f' := (mkF m 9 #[.val (.int xa), .val (.int xb), .val (.int xc), .val (.int xd), .val (.int xe), .val (.ref b1), .unset, .unset, .unset, .unset] [])) ?_ (fun _ k => XS.astore X2.here hx rfl (hb hby at_7) rfl rfl (l' := #[.val (.int xa), .val (.int xb), .val (.int xc), .val (.int xd), .val (.int xe), .val (.ref b1), .unset, .unset, .unset, .unset]) rfl k)
  refine own_go (T' := T2) (f' := (mkF m 11 #[.val (.int xa), .val (.int xb), .val (.int xc), .val (.int xd), .val (.int xe), .val (.ref b1), .unset, .unset, .unset, .unset] [(.int xe)])) ?_ (fun _ k => XS.iload X2.here hx rfl (hb hby at_9) rfl  k)
  refine own_go (T' := T2) (f' := (mkF m 12 #[.val (.int xa), .val (.int xb), .val (.int xc), .val (.int xd), .val (.int xe), .val (.ref b1), .unset, .unset, .unset, .unset] [(.int (3 : Int32)), (.int xe)])) ?_ (fun _ k => XS.iconst X2.here hx rfl (hb hby at_11) k)
  refine own_go (T' := T2) (f' := (mkF m 13 #[.val (.int xa), .val (.int xb), .val (.int xc), .val (.int xd), .val (.int xe), .val (.ref b1), .unset, .unset, .unset, .unset] [(.int (xe &&& (3 : Int32)))])) ?_ (fun _ k => XS.iand X2.here hx rfl (hb hby at_12) rfl k)
  refine own_go (T' := T2) (f' := (mkF m 15 #[.val (.int xa), .val (.int xb), .val (.int xc), .val (.int xd), .val (.int xe), .val (.ref b1), .val (.int (xe &&& (3 : Int32))), .unset, .unset, .unset] [])) ?_ (fun _ k => XS.istore X2.here hx rfl (hb hby at_13) rfl (l' := #[.val (.int xa), .val (.int xb), .val (.int xc), .val (.int xd), .val (.int xe), .val (.ref b1), .val (.int (xe &&& (3 : Int32))), .unset, .unset, .unset]) rfl k)
  refine own_go (T' := T2) (f' := (mkF m 17 #[.val (.int xa), .val (.int xb), .val (.int xc), .val (.int xd), .val (.int xe), .val (.ref b1), .val (.int (xe &&& (3 : Int32))), .unset, .unset, .unset] [(.int (xe &&& (3 : Int32)))])) ?_ (fun _ k => XS.iload X2.here hx rfl (hb hby at_15) rfl  k)
  by_cases hc17_11 : (0 : Int32) < (xe &&& (3 : Int32))
  · refine own_go (T' := T2) (f' := (mkF m 20 #[.val (.int xa), .val (.int xb), .val (.int xc), .val (.int xd), .val (.int xe), .val (.ref b1), .val (.int (xe &&& (3 : Int32))), .unset, .unset, .unset] [])) ?_ (fun _ k => XS.ifNo X2.here hx rfl (hb hby at_17) rfl ((if0 _ _).trans (tlt hc17_11).2.2.2) k)
    refine own_go (T' := T2) (f' := (mkF m 22 #[.val (.int xa), .val (.int xb), .val (.int xc), .val (.int xd), .val (.int xe), .val (.ref b1), .val (.int (xe &&& (3 : Int32))), .unset, .unset, .unset] [(.ref b1)])) ?_ (fun _ k => XS.aload X2.here hx rfl (hb hby at_20) rfl rfl k)
    refine own_go (T' := T2) (f' := (mkF m 23 #[.val (.int xa), .val (.int xb), .val (.int xc), .val (.int xd), .val (.int xe), .val (.ref b1), .val (.int (xe &&& (3 : Int32))), .unset, .unset, .unset] [(.int xa), (.ref b1)])) ?_ (fun _ k => XS.iloadN X2.here hx rfl (hb hby at_22) rfl  k)
    obtain ⟨_, _, ⟨T12, L12, k12, n12⟩, -, X12, ⟨Lc12, hQ12, l12, y12, z12⟩, st12⟩ := Jvm.LawKit.callS X2 hx (y := (⟨"com/example/monitorgen/monitorgen/trace/InstantClearPinLaw", "ev", "(I)I"⟩ : MethodName)) hown (mvT hZ (hw _ (List.mem_of_getElem? (i := 35) rfl))) (mvT hZ (hw _ (List.mem_of_getElem? (i := 36) rfl))) (mvT hZ (hw _ (List.mem_of_getElem? (i := 37) rfl))) (mvT hZ (hw _ (List.mem_of_getElem? (i := 38) rfl))) (by decide) (backOf (W := 1) (own_rm8 l Z a0 hw [] xa T2.heap n0 ZZ2) hZ (hw _ (List.mem_of_getElem? (i := 38) rfl)) (hw _ (List.mem_of_getElem? (i := 37) rfl)) (by decide) (by decide)) (g := (mkF m 23 #[.val (.int xa), .val (.int xb), .val (.int xc), .val (.int xd), .val (.int xe), .val (.ref b1), .val (.int (xe &&& (3 : Int32))), .unset, .unset, .unset] [(.int xa), (.ref b1)])) rfl (by rw [hml]; rfl) (argsL := [(.int xa)]) (rest := [(.ref b1)]) (lenOf own_pd1 rfl) rfl (by show 2 * 0 + _ ≤ _; exact Nat.le_of_eq rfl) (hb hby at_23) (fun _ _ => ⟨rfl, rfl, (by decide : 5 + 0 ≤ _), (by decide : 35 + 0 ≤ _)⟩)
    dsimp only [Pt.U, Pt.locs, Pt.cells, Pt.slots] at X12 l12 y12 z12 st12 hQ12
    subst y12 z12
    obtain ⟨rfl, N12q, e12⟩ := hQ12
    have N12 : Fr n0 L12 := l12 ▸ Fr.app N2 N12q
    refine own_go (T' := T12) (f' := (mkF m 26 #[.val (.int xa), .val (.int xb), .val (.int xc), .val (.int xd), .val (.int xe), .val (.ref b1), .val (.int (xe &&& (3 : Int32))), .unset, .unset, .unset] [(.int (own_f8 xa)), (.ref b1)])) ?_ (st12)
    obtain ⟨cq13, kq13, qa13, qb13, qc13⟩ := isOf hZ e12 fa3
    obtain ⟨_, _, ⟨T13, L13, k13, n13⟩, -, X13, ⟨Lc13, hQ13, l13, y13, z13⟩, st13⟩ := X12.virtualBack hx (y := (⟨"com/example/monitorgen/monitorgen/trace/Instant", "add", "(I)V"⟩ : MethodName)) (z := (⟨"com/example/monitorgen/monitorgen/trace/Instant", "add", "(I)V"⟩ : MethodName)) hown (mvT hZ (hw _ (List.mem_of_getElem? (i := 39) rfl))) (mvT hZ (hw _ (List.mem_of_getElem? (i := 40) rfl))) (notFace_of_selects (args := #[]) (mvT hZ (hw _ (List.mem_of_getElem? (i := 42) rfl)))) (mvT hZ (hw _ (List.mem_of_getElem? (i := 42) rfl))) (mvT hZ (hw _ (List.mem_of_getElem? (i := 41) rfl))) (by decide) (backOf (W := 0) (own_rm10 l Z a0 hw [] b1 (own_f8 xa) oe_2 oc_2 oo_2 os_2 (0 : Int32) (0 : Int64) (0 : Int64) [(0 : Int32), (0 : Int32), (0 : Int32), (0 : Int32)] [(0 : Int64), (0 : Int64), (0 : Int64), (0 : Int64)] [(0 : Int32), (0 : Int32), (0 : Int32), (0 : Int32)] [(0 : Int32), (0 : Int32), (0 : Int32), (0 : Int32), (0 : Int32), (0 : Int32), (0 : Int32), (0 : Int32), (0 : Int32), (0 : Int32), (0 : Int32), (0 : Int32), (0 : Int32), (0 : Int32), (0 : Int32), (0 : Int32)] 0 T2.heap n0 ZZ2 fa3 P2_14 P2_15 P2_16 P2_17 P2_18 P2_19 P2_20 P2_21 P2_22 P2_23 P2_24 g_b1 g_oe_2 g_oc_2 g_oo_2 g_os_2 P2_4 P2_5 P2_6 P2_7 P2_8 P2_9 P2_10 P2_11 P2_12 P2_13 (own_inv0) (by decide)) hZ (hw _ (List.mem_of_getElem? (i := 43) rfl)) (hw _ (List.mem_of_getElem? (i := 2) rfl)) (by decide) (by decide)) qa13 qc13 (g := (mkF m 26 #[.val (.int xa), .val (.int xb), .val (.int xc), .val (.int xd), .val (.int xe), .val (.ref b1), .val (.int (xe &&& (3 : Int32))), .unset, .unset, .unset] [(.int (own_f8 xa)), (.ref b1)])) rfl (by rw [hml]; rfl) (Steps.refl _) (argsL := [(.int (own_f8 xa))]) (rest := []) (lenOf own_pd2 rfl) rfl (by show 2 * 0 + _ ≤ _; exact Nat.le_of_eq rfl) (hb hby at_26) (fun _ _ => ⟨rfl, e12, (by decide : 5 + 0 ≤ _), (by decide : 35 + 0 ≤ _)⟩)
    dsimp only [Pt.U, Pt.locs, Pt.cells, Pt.slots] at X13 l13 y13 z13 st13 hQ13
    subst y13 z13
    obtain ⟨nd__13, tt__13, ig__13, LE__13, LC__13, LO__13, LS__13, rfl, N13q, K13, P13_0, P13_1, P13_2, P13_3, P13_4, P13_5, P13_6, P13_7, P13_8, P13_9, P13_10, P13_11, P13_12⟩ := hQ13
    have fa14 := fa3.keep K13
    have KK13 : Keep h0 T13.heap [] := KK2.trans K13 (allS (Or.inr sz_b1) (allS (Or.inr sz_oe_2) (allS (Or.inr sz_oc_2) (allS (Or.inr sz_oo_2) (allS (Or.inr sz_os_2) all0)))))
    have ZZ13 : n0 ≤ T13.heap.size := Nat.le_trans ZZ2 K13.1
    have N13 : Fr n0 L13 := l13 ▸ Fr.app N12 N13q
    refine own_go (T' := T13) (f' := (mkF m 29 #[.val (.int xa), .val (.int xb), .val (.int xc), .val (.int xd), .val (.int xe), .val (.ref b1), .val (.int (xe &&& (3 : Int32))), .unset, .unset, .unset] [])) ?_ (fun _ k => st13.trans k)
    refine own_go (T' := T13) (f' := (mkF m 31 #[.val (.int xa), .val (.int xb), .val (.int xc), .val (.int xd), .val (.int xe), .val (.ref b1), .val (.int (xe &&& (3 : Int32))), .unset, .unset, .unset] [(.int (xe &&& (3 : Int32)))])) ?_ (fun _ k => XS.iload X13.here hx rfl (hb hby at_29) rfl  k)
    refine own_go (T' := T13) (f' := (mkF m 32 #[.val (.int xa), .val (.int xb), .val (.int xc), .val (.int xd), .val (.int xe), .val (.ref b1), .val (.int (xe &&& (3 : Int32))), .unset, .unset, .unset] [(.int (1 : Int32)), (.int (xe &&& (3 : Int32)))])) ?_ (fun _ k => XS.iconst X13.here hx rfl (hb hby at_31) k)
    by_cases hc32_26 : (1 : Int32) < (xe &&& (3 : Int32))
    · refine own_go (T' := T13) (f' := (mkF m 35 #[.val (.int xa), .val (.int xb), .val (.int xc), .val (.int xd), .val (.int xe), .val (.ref b1), .val (.int (xe &&& (3 : Int32))), .unset, .unset, .unset] [])) ?_ (fun _ k => XS.icmpNo X13.here hx rfl (hb hby at_32) rfl (tlt hc32_26).2.2.2 k)
      refine own_go (T' := T13) (f' := (mkF m 37 #[.val (.int xa), .val (.int xb), .val (.int xc), .val (.int xd), .val (.int xe), .val (.ref b1), .val (.int (xe &&& (3 : Int32))), .unset, .unset, .unset] [(.ref b1)])) ?_ (fun _ k => XS.aload X13.here hx rfl (hb hby at_35) rfl rfl k)
      refine own_go (T' := T13) (f' := (mkF m 38 #[.val (.int xa), .val (.int xb), .val (.int xc), .val (.int xd), .val (.int xe), .val (.ref b1), .val (.int (xe &&& (3 : Int32))), .unset, .unset, .unset] [(.int xb), (.ref b1)])) ?_ (fun _ k => XS.iloadN X13.here hx rfl (hb hby at_37) rfl  k)
      obtain ⟨_, _, ⟨T27, L27, k27, n27⟩, -, X27, ⟨Lc27, hQ27, l27, y27, z27⟩, st27⟩ := Jvm.LawKit.callS X13 hx (y := (⟨"com/example/monitorgen/monitorgen/trace/InstantClearPinLaw", "ev", "(I)I"⟩ : MethodName)) hown (mvT hZ (hw _ (List.mem_of_getElem? (i := 35) rfl))) (mvT hZ (hw _ (List.mem_of_getElem? (i := 36) rfl))) (mvT hZ (hw _ (List.mem_of_getElem? (i := 37) rfl))) (mvT hZ (hw _ (List.mem_of_getElem? (i := 38) rfl))) (by decide) (backOf (W := 1) (own_rm8 l Z a0 hw [] xb T13.heap n0 ZZ13) hZ (hw _ (List.mem_of_getElem? (i := 38) rfl)) (hw _ (List.mem_of_getElem? (i := 37) rfl)) (by decide) (by decide)) (g := (mkF m 38 #[.val (.int xa), .val (.int xb), .val (.int xc), .val (.int xd), .val (.int xe), .val (.ref b1), .val (.int (xe &&& (3 : Int32))), .unset, .unset, .unset] [(.int xb), (.ref b1)])) rfl (by rw [hml]; rfl) (argsL := [(.int xb)]) (rest := [(.ref b1)]) (lenOf own_pd1 rfl) rfl (by show 2 * 0 + _ ≤ _; exact Nat.le_of_eq rfl) (hb hby at_38) (fun _ _ => ⟨rfl, rfl, (by decide : 5 + 0 ≤ _), (by decide : 35 + 0 ≤ _)⟩)
      dsimp only [Pt.U, Pt.locs, Pt.cells, Pt.slots] at X27 l27 y27 z27 st27 hQ27
      subst y27 z27
      obtain ⟨rfl, N27q, e27⟩ := hQ27
      have N27 : Fr n0 L27 := l27 ▸ Fr.app N13 N27q
      refine own_go (T' := T27) (f' := (mkF m 41 #[.val (.int xa), .val (.int xb), .val (.int xc), .val (.int xd), .val (.int xe), .val (.ref b1), .val (.int (xe &&& (3 : Int32))), .unset, .unset, .unset] [(.int (own_f8 xb)), (.ref b1)])) ?_ (st27)
      obtain ⟨cq28, kq28, qa28, qb28, qc28⟩ := isOf hZ e27 fa14
      obtain ⟨_, _, ⟨T28, L28, k28, n28⟩, -, X28, ⟨Lc28, hQ28, l28, y28, z28⟩, st28⟩ := X27.virtualBack hx (y := (⟨"com/example/monitorgen/monitorgen/trace/Instant", "add", "(I)V"⟩ : MethodName)) (z := (⟨"com/example/monitorgen/monitorgen/trace/Instant", "add", "(I)V"⟩ : MethodName)) hown (mvT hZ (hw _ (List.mem_of_getElem? (i := 39) rfl))) (mvT hZ (hw _ (List.mem_of_getElem? (i := 40) rfl))) (notFace_of_selects (args := #[]) (mvT hZ (hw _ (List.mem_of_getElem? (i := 42) rfl)))) (mvT hZ (hw _ (List.mem_of_getElem? (i := 42) rfl))) (mvT hZ (hw _ (List.mem_of_getElem? (i := 41) rfl))) (by decide) (backOf (W := 0) (own_rm10 l Z a0 hw [] b1 (own_f8 xb) oe_2 oc_2 oo_2 os_2 nd__13 tt__13 ig__13 LE__13 LC__13 LO__13 LS__13 1 T13.heap n0 ZZ13 fa14 P13_0 P13_1 P13_2 P13_3 P13_4 P13_5 P13_6 P13_7 P13_8 P13_9 P13_10 g_b1 g_oe_2 g_oc_2 g_oo_2 g_os_2 P2_4 P2_5 P2_6 P2_7 P2_8 P2_9 P2_10 P2_11 P2_12 P2_13 (P13_11) (by decide)) hZ (hw _ (List.mem_of_getElem? (i := 43) rfl)) (hw _ (List.mem_of_getElem? (i := 2) rfl)) (by decide) (by decide)) qa28 qc28 (g := (mkF m 41 #[.val (.int xa), .val (.int xb), .val (.int xc), .val (.int xd), .val (.int xe), .val (.ref b1), .val (.int (xe &&& (3 : Int32))), .unset, .unset, .unset] [(.int (own_f8 xb)), (.ref b1)])) rfl (by rw [hml]; rfl) (Steps.refl _) (argsL := [(.int (own_f8 xb))]) (rest := []) (lenOf own_pd2 rfl) rfl (by show 2 * 0 + _ ≤ _; exact Nat.le_of_eq rfl) (hb hby at_41) (fun _ _ => ⟨rfl, e27, (by decide : 5 + 0 ≤ _), (by decide : 35 + 0 ≤ _)⟩)
      dsimp only [Pt.U, Pt.locs, Pt.cells, Pt.slots] at X28 l28 y28 z28 st28 hQ28
      subst y28 z28
      obtain ⟨nd__28, tt__28, ig__28, LE__28, LC__28, LO__28, LS__28, rfl, N28q, K28, P28_0, P28_1, P28_2, P28_3, P28_4, P28_5, P28_6, P28_7, P28_8, P28_9, P28_10, P28_11, P28_12⟩ := hQ28
      have fa29 := fa14.keep K28
      have KK28 : Keep h0 T28.heap [] := KK13.trans K28 (allS (Or.inr sz_b1) (allS (Or.inr sz_oe_2) (allS (Or.inr sz_oc_2) (allS (Or.inr sz_oo_2) (allS (Or.inr sz_os_2) all0)))))
      have ZZ28 : n0 ≤ T28.heap.size := Nat.le_trans ZZ13 K28.1
      have N28 : Fr n0 L28 := l28 ▸ Fr.app N27 N28q
      refine own_go (T' := T28) (f' := (mkF m 44 #[.val (.int xa), .val (.int xb), .val (.int xc), .val (.int xd), .val (.int xe), .val (.ref b1), .val (.int (xe &&& (3 : Int32))), .unset, .unset, .unset] [])) ?_ (fun _ k => st28.trans k)
      refine own_go (T' := T28) (f' := (mkF m 46 #[.val (.int xa), .val (.int xb), .val (.int xc), .val (.int xd), .val (.int xe), .val (.ref b1), .val (.int (xe &&& (3 : Int32))), .unset, .unset, .unset] [(.int (xe &&& (3 : Int32)))])) ?_ (fun _ k => XS.iload X28.here hx rfl (hb hby at_44) rfl  k)
      refine own_go (T' := T28) (f' := (mkF m 47 #[.val (.int xa), .val (.int xb), .val (.int xc), .val (.int xd), .val (.int xe), .val (.ref b1), .val (.int (xe &&& (3 : Int32))), .unset, .unset, .unset] [(.int (2 : Int32)), (.int (xe &&& (3 : Int32)))])) ?_ (fun _ k => XS.iconst X28.here hx rfl (hb hby at_46) k)
      by_cases hc47_41 : (2 : Int32) < (xe &&& (3 : Int32))
      · refine own_go (T' := T28) (f' := (mkF m 50 #[.val (.int xa), .val (.int xb), .val (.int xc), .val (.int xd), .val (.int xe), .val (.ref b1), .val (.int (xe &&& (3 : Int32))), .unset, .unset, .unset] [])) ?_ (fun _ k => XS.icmpNo X28.here hx rfl (hb hby at_47) rfl (tlt hc47_41).2.2.2 k)
        refine own_go (T' := T28) (f' := (mkF m 52 #[.val (.int xa), .val (.int xb), .val (.int xc), .val (.int xd), .val (.int xe), .val (.ref b1), .val (.int (xe &&& (3 : Int32))), .unset, .unset, .unset] [(.ref b1)])) ?_ (fun _ k => XS.aload X28.here hx rfl (hb hby at_50) rfl rfl k)
        refine own_go (T' := T28) (f' := (mkF m 53 #[.val (.int xa), .val (.int xb), .val (.int xc), .val (.int xd), .val (.int xe), .val (.ref b1), .val (.int (xe &&& (3 : Int32))), .unset, .unset, .unset] [(.int xc), (.ref b1)])) ?_ (fun _ k => XS.iloadN X28.here hx rfl (hb hby at_52) rfl  k)
        obtain ⟨_, _, ⟨T42, L42, k42, n42⟩, -, X42, ⟨Lc42, hQ42, l42, y42, z42⟩, st42⟩ := Jvm.LawKit.callS X28 hx (y := (⟨"com/example/monitorgen/monitorgen/trace/InstantClearPinLaw", "ev", "(I)I"⟩ : MethodName)) hown (mvT hZ (hw _ (List.mem_of_getElem? (i := 35) rfl))) (mvT hZ (hw _ (List.mem_of_getElem? (i := 36) rfl))) (mvT hZ (hw _ (List.mem_of_getElem? (i := 37) rfl))) (mvT hZ (hw _ (List.mem_of_getElem? (i := 38) rfl))) (by decide) (backOf (W := 1) (own_rm8 l Z a0 hw [] xc T28.heap n0 ZZ28) hZ (hw _ (List.mem_of_getElem? (i := 38) rfl)) (hw _ (List.mem_of_getElem? (i := 37) rfl)) (by decide) (by decide)) (g := (mkF m 53 #[.val (.int xa), .val (.int xb), .val (.int xc), .val (.int xd), .val (.int xe), .val (.ref b1), .val (.int (xe &&& (3 : Int32))), .unset, .unset, .unset] [(.int xc), (.ref b1)])) rfl (by rw [hml]; rfl) (argsL := [(.int xc)]) (rest := [(.ref b1)]) (lenOf own_pd1 rfl) rfl (by show 2 * 0 + _ ≤ _; exact Nat.le_of_eq rfl) (hb hby at_53) (fun _ _ => ⟨rfl, rfl, (by decide : 5 + 0 ≤ _), (by decide : 35 + 0 ≤ _)⟩)
        dsimp only [Pt.U, Pt.locs, Pt.cells, Pt.slots] at X42 l42 y42 z42 st42 hQ42
        subst y42 z42
        obtain ⟨rfl, N42q, e42⟩ := hQ42
        have N42 : Fr n0 L42 := l42 ▸ Fr.app N28 N42q
        refine own_go (T' := T42) (f' := (mkF m 56 #[.val (.int xa), .val (.int xb), .val (.int xc), .val (.int xd), .val (.int xe), .val (.ref b1), .val (.int (xe &&& (3 : Int32))), .unset, .unset, .unset] [(.int (own_f8 xc)), (.ref b1)])) ?_ (st42)
        obtain ⟨cq43, kq43, qa43, qb43, qc43⟩ := isOf hZ e42 fa29
        obtain ⟨_, _, ⟨T43, L43, k43, n43⟩, -, X43, ⟨Lc43, hQ43, l43, y43, z43⟩, st43⟩ := X42.virtualBack hx (y := (⟨"com/example/monitorgen/monitorgen/trace/Instant", "add", "(I)V"⟩ : MethodName)) (z := (⟨"com/example/monitorgen/monitorgen/trace/Instant", "add", "(I)V"⟩ : MethodName)) hown (mvT hZ (hw _ (List.mem_of_getElem? (i := 39) rfl))) (mvT hZ (hw _ (List.mem_of_getElem? (i := 40) rfl))) (notFace_of_selects (args := #[]) (mvT hZ (hw _ (List.mem_of_getElem? (i := 42) rfl)))) (mvT hZ (hw _ (List.mem_of_getElem? (i := 42) rfl))) (mvT hZ (hw _ (List.mem_of_getElem? (i := 41) rfl))) (by decide) (backOf (W := 0) (own_rm10 l Z a0 hw [] b1 (own_f8 xc) oe_2 oc_2 oo_2 os_2 nd__28 tt__28 ig__28 LE__28 LC__28 LO__28 LS__28 2 T28.heap n0 ZZ28 fa29 P28_0 P28_1 P28_2 P28_3 P28_4 P28_5 P28_6 P28_7 P28_8 P28_9 P28_10 g_b1 g_oe_2 g_oc_2 g_oo_2 g_os_2 P2_4 P2_5 P2_6 P2_7 P2_8 P2_9 P2_10 P2_11 P2_12 P2_13 (P28_11) (by decide)) hZ (hw _ (List.mem_of_getElem? (i := 43) rfl)) (hw _ (List.mem_of_getElem? (i := 2) rfl)) (by decide) (by decide)) qa43 qc43 (g := (mkF m 56 #[.val (.int xa), .val (.int xb), .val (.int xc), .val (.int xd), .val (.int xe), .val (.ref b1), .val (.int (xe &&& (3 : Int32))), .unset, .unset, .unset] [(.int (own_f8 xc)), (.ref b1)])) rfl (by rw [hml]; rfl) (Steps.refl _) (argsL := [(.int (own_f8 xc))]) (rest := []) (lenOf own_pd2 rfl) rfl (by show 2 * 0 + _ ≤ _; exact Nat.le_of_eq rfl) (hb hby at_56) (fun _ _ => ⟨rfl, e42, (by decide : 5 + 0 ≤ _), (by decide : 35 + 0 ≤ _)⟩)
        dsimp only [Pt.U, Pt.locs, Pt.cells, Pt.slots] at X43 l43 y43 z43 st43 hQ43
        subst y43 z43
        obtain ⟨nd__43, tt__43, ig__43, LE__43, LC__43, LO__43, LS__43, rfl, N43q, K43, P43_0, P43_1, P43_2, P43_3, P43_4, P43_5, P43_6, P43_7, P43_8, P43_9, P43_10, P43_11, P43_12⟩ := hQ43
        have fa44 := fa29.keep K43
        have KK43 : Keep h0 T43.heap [] := KK28.trans K43 (allS (Or.inr sz_b1) (allS (Or.inr sz_oe_2) (allS (Or.inr sz_oc_2) (allS (Or.inr sz_oo_2) (allS (Or.inr sz_os_2) all0)))))
        have ZZ43 : n0 ≤ T43.heap.size := Nat.le_trans ZZ28 K43.1
        have N43 : Fr n0 L43 := l43 ▸ Fr.app N42 N43q
        refine own_go (T' := T43) (f' := (mkF m 59 #[.val (.int xa), .val (.int xb), .val (.int xc), .val (.int xd), .val (.int xe), .val (.ref b1), .val (.int (xe &&& (3 : Int32))), .unset, .unset, .unset] [])) ?_ (fun _ k => st43.trans k)
        refine own_go (T' := T43) (f' := (mkF m 61 #[.val (.int xa), .val (.int xb), .val (.int xc), .val (.int xd), .val (.int xe), .val (.ref b1), .val (.int (xe &&& (3 : Int32))), .unset, .unset, .unset] [(.ref b1)])) ?_ (fun _ k => XS.aload X43.here hx rfl (hb hby at_59) rfl rfl k)
        obtain ⟨cq56, kq56, qa56, qb56, qc56⟩ := isOf hZ rfl fa44
        obtain ⟨_, _, ⟨T56, L56, k56, n56⟩, -, X56, ⟨Lc56, hQ56, l56, y56, z56⟩, st56⟩ := X43.virtualBack hx (y := (⟨"com/example/monitorgen/monitorgen/trace/Instant", "clear", "()V"⟩ : MethodName)) (z := (⟨"com/example/monitorgen/monitorgen/trace/Instant", "clear", "()V"⟩ : MethodName)) hown (mvT hZ (hw _ (List.mem_of_getElem? (i := 19) rfl))) (mvT hZ (hw _ (List.mem_of_getElem? (i := 20) rfl))) (notFace_of_selects (args := #[]) (mvT hZ (hw _ (List.mem_of_getElem? (i := 22) rfl)))) (mvT hZ (hw _ (List.mem_of_getElem? (i := 22) rfl))) (mvT hZ (hw _ (List.mem_of_getElem? (i := 21) rfl))) (by decide) (backOf (W := 0) (own_rm9 l Z a0 hw [] b1 oe_2 oc_2 oo_2 os_2 nd__43 tt__43 ig__43 LE__43 LC__43 LO__43 LS__43 3 T43.heap n0 ZZ43 fa44 P43_0 P43_1 P43_2 P43_3 P43_4 P43_5 P43_6 P43_7 P43_8 P43_9 P43_10 g_b1 g_oe_2 g_oc_2 g_oo_2 g_os_2 P2_4 P2_5 P2_6 P2_7 P2_8 P2_9 P2_10 P2_11 P2_12 P2_13 (P43_11) (by decide)) hZ (hw _ (List.mem_of_getElem? (i := 23) rfl)) (hw _ (List.mem_of_getElem? (i := 2) rfl)) (by decide) (by decide)) qa56 qc56 (g := (mkF m 61 #[.val (.int xa), .val (.int xb), .val (.int xc), .val (.int xd), .val (.int xe), .val (.ref b1), .val (.int (xe &&& (3 : Int32))), .unset, .unset, .unset] [(.ref b1)])) rfl (by rw [hml]; rfl) (Steps.refl _) (argsL := []) (rest := []) (lenOf own_pd0 rfl) rfl (by show 2 * 0 + _ ≤ _; exact Nat.le_of_eq rfl) (hb hby at_61) (fun _ _ => ⟨rfl, rfl, (by decide : 5 + 0 ≤ _), (by decide : 35 + 0 ≤ _)⟩)
        dsimp only [Pt.U, Pt.locs, Pt.cells, Pt.slots] at X56 l56 y56 z56 st56 hQ56
        subst y56 z56
        obtain ⟨rfl, N56q, K56, P56_0, P56_1, P56_2, P56_3, P56_4, P56_5, P56_6, P56_7⟩ := hQ56
        have fa57 := fa44.keep K56
        have fa65 := P43_7.keep K56 (ninS (Ne.symm P2_4) (ninS P2_10 nin0))
        have fa66 := P43_8.keep K56 (ninS (Ne.symm P2_5) (ninS P2_12 nin0))
        have fa67 := P43_9.keep K56 (ninS (Ne.symm P2_6) (ninS P2_13 nin0))
        have KK56 : Keep h0 T56.heap [] := KK43.trans K56 (allS (Or.inr sz_b1) (allS (Or.inr sz_os_2) all0))
        have ZZ56 : n0 ≤ T56.heap.size := Nat.le_trans ZZ43 K56.1
        have N56 : Fr n0 L56 := l56 ▸ Fr.app N43 N56q
        refine own_go (T' := T56) (f' := (mkF m 64 #[.val (.int xa), .val (.int xb), .val (.int xc), .val (.int xd), .val (.int xe), .val (.ref b1), .val (.int (xe &&& (3 : Int32))), .unset, .unset, .unset] [])) ?_ (fun _ k => st56.trans k)
        refine own_go (T' := T56) (f' := (mkF m 66 #[.val (.int xa), .val (.int xb), .val (.int xc), .val (.int xd), .val (.int xe), .val (.ref b1), .val (.int (xe &&& (3 : Int32))), .unset, .unset, .unset] [(.ref b1)])) ?_ (fun _ k => XS.aload X56.here hx rfl (hb hby at_64) rfl rfl k)
        obtain ⟨cq69, kq69, qa69, qb69, qc69⟩ := isOf hZ rfl fa57
        obtain ⟨_, _, ⟨T69, L69, k69, n69⟩, -, X69, ⟨Lc69, hQ69, l69, y69, z69⟩, st69⟩ := X56.virtualBack hx (y := (⟨"com/example/monitorgen/monitorgen/trace/Instant", "isEmpty", "()Z"⟩ : MethodName)) (z := (⟨"com/example/monitorgen/monitorgen/trace/Instant", "isEmpty", "()Z"⟩ : MethodName)) hown (mvT hZ (hw _ (List.mem_of_getElem? (i := 30) rfl))) (mvT hZ (hw _ (List.mem_of_getElem? (i := 31) rfl))) (notFace_of_selects (args := #[]) (mvT hZ (hw _ (List.mem_of_getElem? (i := 33) rfl)))) (mvT hZ (hw _ (List.mem_of_getElem? (i := 33) rfl))) (mvT hZ (hw _ (List.mem_of_getElem? (i := 32) rfl))) (by decide) (backOf (W := 0) (own_rm5 l Z a0 hw [] b1 (0 : Int64) (0 : Int64) T56.heap n0 ZZ56 P56_5 P56_6) hZ (hw _ (List.mem_of_getElem? (i := 34) rfl)) (hw _ (List.mem_of_getElem? (i := 2) rfl)) (by decide) (by decide)) qa69 qc69 (g := (mkF m 66 #[.val (.int xa), .val (.int xb), .val (.int xc), .val (.int xd), .val (.int xe), .val (.ref b1), .val (.int (xe &&& (3 : Int32))), .unset, .unset, .unset] [(.ref b1)])) rfl (by rw [hml]; rfl) (Steps.refl _) (argsL := []) (rest := []) (lenOf own_pd3 rfl) rfl (by show 2 * 0 + _ ≤ _; exact Nat.le_of_eq rfl) (hb hby at_66) (fun _ _ => ⟨rfl, rfl, (by decide : 5 + 0 ≤ _), (by decide : 35 + 0 ≤ _)⟩)
        dsimp only [Pt.U, Pt.locs, Pt.cells, Pt.slots] at X69 l69 y69 z69 st69 hQ69
        subst y69 z69
        obtain ⟨rfl, N69q, e69⟩ := hQ69
        have N69 : Fr n0 L69 := l69 ▸ Fr.app N56 N69q
        refine own_go (T' := T69) (f' := (mkF m 69 #[.val (.int xa), .val (.int xb), .val (.int xc), .val (.int xd), .val (.int xe), .val (.ref b1), .val (.int (xe &&& (3 : Int32))), .unset, .unset, .unset] [(.int (own_f5 (0 : Int64) (0 : Int64)))])) ?_ (fun _ k => st69.trans k)
        have hk69_70 : ¬ ((own_f5 (0 : Int64) (0 : Int64)) = (0 : Int32)) := (by decide)
        refine own_go (T' := T69) (f' := (mkF m 74 #[.val (.int xa), .val (.int xb), .val (.int xc), .val (.int xd), .val (.int xe), .val (.ref b1), .val (.int (xe &&& (3 : Int32))), .unset, .unset, .unset] [])) ?_ (fun _ k => XS.ifYes X69.here hx rfl (pc0 := 69) (pc' := 74) rfl (hb hby at_69) rfl ((if0 _ _).trans (feq hk69_70).2) (by decide) (by decide) k)
        refine own_go (T' := T69) (f' := (mkF m 76 #[.val (.int xa), .val (.int xb), .val (.int xc), .val (.int xd), .val (.int xe), .val (.ref b1), .val (.int (xe &&& (3 : Int32))), .unset, .unset, .unset] [(.int xe)])) ?_ (fun _ k => XS.iload X69.here hx rfl (hb hby at_74) rfl  k)
        refine own_go (T' := T69) (f' := (mkF m 77 #[.val (.int xa), .val (.int xb), .val (.int xc), .val (.int xd), .val (.int xe), .val (.ref b1), .val (.int (xe &&& (3 : Int32))), .unset, .unset, .unset] [(.int (2 : Int32)), (.int xe)])) ?_ (fun _ k => XS.iconst X69.here hx rfl (hb hby at_76) k)
        refine own_go (T' := T69) (f' := (mkF m 78 #[.val (.int xa), .val (.int xb), .val (.int xc), .val (.int xd), .val (.int xe), .val (.ref b1), .val (.int (xe &&& (3 : Int32))), .unset, .unset, .unset] [(.int ((xe.toUInt32 >>> ((2 : Int32) &&& 31).toUInt32).toInt32))])) ?_ (fun _ k => XS.iushr X69.here hx rfl (hb hby at_77) rfl k)
        refine own_go (T' := T69) (f' := (mkF m 79 #[.val (.int xa), .val (.int xb), .val (.int xc), .val (.int xd), .val (.int xe), .val (.ref b1), .val (.int (xe &&& (3 : Int32))), .unset, .unset, .unset] [(.int (3 : Int32)), (.int ((xe.toUInt32 >>> ((2 : Int32) &&& 31).toUInt32).toInt32))])) ?_ (fun _ k => XS.iconst X69.here hx rfl (hb hby at_78) k)
        refine own_go (T' := T69) (f' := (mkF m 80 #[.val (.int xa), .val (.int xb), .val (.int xc), .val (.int xd), .val (.int xe), .val (.ref b1), .val (.int (xe &&& (3 : Int32))), .unset, .unset, .unset] [(.int (((xe.toUInt32 >>> ((2 : Int32) &&& 31).toUInt32).toInt32) &&& (3 : Int32)))])) ?_ (fun _ k => XS.iand X69.here hx rfl (hb hby at_79) rfl k)
        refine own_go (T' := T69) (f' := (mkF m 82 #[.val (.int xa), .val (.int xb), .val (.int xc), .val (.int xd), .val (.int xe), .val (.ref b1), .val (.int (xe &&& (3 : Int32))), .val (.int (own_v0_80 xe)), .unset, .unset] [])) ?_ (fun _ k => XS.istore X69.here hx rfl (hb hby at_80) rfl (l' := #[.val (.int xa), .val (.int xb), .val (.int xc), .val (.int xd), .val (.int xe), .val (.ref b1), .val (.int (xe &&& (3 : Int32))), .val (.int (own_v0_80 xe)), .unset, .unset]) rfl k)
        refine own_go (T' := T69) (f' := (mkF m 84 #[.val (.int xa), .val (.int xb), .val (.int xc), .val (.int xd), .val (.int xe), .val (.ref b1), .val (.int (xe &&& (3 : Int32))), .val (.int (own_v0_80 xe)), .unset, .unset] [(.int (own_v0_80 xe))])) ?_ (fun _ k => XS.iload X69.here hx rfl (hb hby at_82) rfl  k)
        obtain ⟨_, ⟨T71, L71, rfl, X71, e71, N71⟩, mg71⟩ : own_Goes p.tables e below (fun uu => ∃ (T' : State) (L' : List Loc), uu = T'.setTop (mkF m 112 #[.val (.int xa), .val (.int xb), .val (.int xc), .val (.int xd), .val (.int xe), .val (.ref b1), .val (.int (xe &&& (3 : Int32))), .val (.int (own_v0_80 xe)), .unset, .unset] [(.int (own_v0_84_s0 xa xb xc xd xe))]) ∧ Stand p l e room_1 s m #[(.int xa), (.int xb), (.int xc), (.int xd), (.int xe)] below meth c T' L' 5 35 ∧ T'.heap = T56.heap ∧ Fr n0 L') T69 (mkF m 84 #[.val (.int xa), .val (.int xb), .val (.int xc), .val (.int xd), .val (.int xe), .val (.ref b1), .val (.int (xe &&& (3 : Int32))), .val (.int (own_v0_80 xe)), .unset, .unset] [(.int (own_v0_80 xe))]) := by
          by_cases hc84_72 : (own_v0_80 xe) = (0 : Int32)
          · refine own_go (T' := T69) (f' := (mkF m 87 #[.val (.int xa), .val (.int xb), .val (.int xc), .val (.int xd), .val (.int xe), .val (.ref b1), .val (.int (xe &&& (3 : Int32))), .val (.int (own_v0_80 xe)), .unset, .unset] [])) ?_ (fun _ k => XS.ifNo X69.here hx rfl (hb hby at_84) rfl ((if0 _ _).trans (teq hc84_72).2) k)
            refine own_go (T' := T69) (f' := (mkF m 88 #[.val (.int xa), .val (.int xb), .val (.int xc), .val (.int xd), .val (.int xe), .val (.ref b1), .val (.int (xe &&& (3 : Int32))), .val (.int (own_v0_80 xe)), .unset, .unset] [(.int xa)])) ?_ (fun _ k => XS.iloadN X69.here hx rfl (hb hby at_87) rfl  k)
            refine own_go (T' := T69) (f' := (mkF m 112 #[.val (.int xa), .val (.int xb), .val (.int xc), .val (.int xd), .val (.int xe), .val (.ref b1), .val (.int (xe &&& (3 : Int32))), .val (.int (own_v0_80 xe)), .unset, .unset] [(.int xa)])) ?_ (fun _ k => XS.goto X69.here hx rfl (pc0 := 88) (pc' := 112) rfl (hb hby at_88) (by decide) (by decide) k)
            have em73 : (own_v0_84_s0 xa xb xc xd xe) = xa := (if_pos hc84_72)
            exact ⟨_, ⟨T69, _, (by rw [em73]), X69, e69, N69⟩, fun _ k => k⟩
          · refine own_go (T' := T69) (f' := (mkF m 91 #[.val (.int xa), .val (.int xb), .val (.int xc), .val (.int xd), .val (.int xe), .val (.ref b1), .val (.int (xe &&& (3 : Int32))), .val (.int (own_v0_80 xe)), .unset, .unset] [])) ?_ (fun _ k => XS.ifYes X69.here hx rfl (pc0 := 84) (pc' := 91) rfl (hb hby at_84) rfl ((if0 _ _).trans (feq hc84_72).2) (by decide) (by decide) k)
            refine own_go (T' := T69) (f' := (mkF m 93 #[.val (.int xa), .val (.int xb), .val (.int xc), .val (.int xd), .val (.int xe), .val (.ref b1), .val (.int (xe &&& (3 : Int32))), .val (.int (own_v0_80 xe)), .unset, .unset] [(.int (own_v0_80 xe))])) ?_ (fun _ k => XS.iload X69.here hx rfl (hb hby at_91) rfl  k)
            refine own_go (T' := T69) (f' := (mkF m 94 #[.val (.int xa), .val (.int xb), .val (.int xc), .val (.int xd), .val (.int xe), .val (.ref b1), .val (.int (xe &&& (3 : Int32))), .val (.int (own_v0_80 xe)), .unset, .unset] [(.int (1 : Int32)), (.int (own_v0_80 xe))])) ?_ (fun _ k => XS.iconst X69.here hx rfl (hb hby at_93) k)
            by_cases hc94_74 : (own_v0_80 xe) = (1 : Int32)
            · refine own_go (T' := T69) (f' := (mkF m 97 #[.val (.int xa), .val (.int xb), .val (.int xc), .val (.int xd), .val (.int xe), .val (.ref b1), .val (.int (xe &&& (3 : Int32))), .val (.int (own_v0_80 xe)), .unset, .unset] [])) ?_ (fun _ k => XS.icmpNo X69.here hx rfl (hb hby at_94) rfl (teq hc94_74).2 k)
              refine own_go (T' := T69) (f' := (mkF m 98 #[.val (.int xa), .val (.int xb), .val (.int xc), .val (.int xd), .val (.int xe), .val (.ref b1), .val (.int (xe &&& (3 : Int32))), .val (.int (own_v0_80 xe)), .unset, .unset] [(.int xb)])) ?_ (fun _ k => XS.iloadN X69.here hx rfl (hb hby at_97) rfl  k)
              refine own_go (T' := T69) (f' := (mkF m 112 #[.val (.int xa), .val (.int xb), .val (.int xc), .val (.int xd), .val (.int xe), .val (.ref b1), .val (.int (xe &&& (3 : Int32))), .val (.int (own_v0_80 xe)), .unset, .unset] [(.int xb)])) ?_ (fun _ k => XS.goto X69.here hx rfl (pc0 := 98) (pc' := 112) rfl (hb hby at_98) (by decide) (by decide) k)
              have em75 : (own_v0_84_s0 xa xb xc xd xe) = xb := (Eq.trans (if_neg hc84_72) (if_pos hc94_74))
              exact ⟨_, ⟨T69, _, (by rw [em75]), X69, e69, N69⟩, fun _ k => k⟩
            · refine own_go (T' := T69) (f' := (mkF m 101 #[.val (.int xa), .val (.int xb), .val (.int xc), .val (.int xd), .val (.int xe), .val (.ref b1), .val (.int (xe &&& (3 : Int32))), .val (.int (own_v0_80 xe)), .unset, .unset] [])) ?_ (fun _ k => XS.icmpYes X69.here hx rfl (pc0 := 94) (pc' := 101) rfl (hb hby at_94) rfl (feq hc94_74).2 (by decide) (by decide) k)
              refine own_go (T' := T69) (f' := (mkF m 103 #[.val (.int xa), .val (.int xb), .val (.int xc), .val (.int xd), .val (.int xe), .val (.ref b1), .val (.int (xe &&& (3 : Int32))), .val (.int (own_v0_80 xe)), .unset, .unset] [(.int (own_v0_80 xe))])) ?_ (fun _ k => XS.iload X69.here hx rfl (hb hby at_101) rfl  k)
              refine own_go (T' := T69) (f' := (mkF m 104 #[.val (.int xa), .val (.int xb), .val (.int xc), .val (.int xd), .val (.int xe), .val (.ref b1), .val (.int (xe &&& (3 : Int32))), .val (.int (own_v0_80 xe)), .unset, .unset] [(.int (2 : Int32)), (.int (own_v0_80 xe))])) ?_ (fun _ k => XS.iconst X69.here hx rfl (hb hby at_103) k)
              by_cases hc104_76 : (own_v0_80 xe) = (2 : Int32)
              · refine own_go (T' := T69) (f' := (mkF m 107 #[.val (.int xa), .val (.int xb), .val (.int xc), .val (.int xd), .val (.int xe), .val (.ref b1), .val (.int (xe &&& (3 : Int32))), .val (.int (own_v0_80 xe)), .unset, .unset] [])) ?_ (fun _ k => XS.icmpNo X69.here hx rfl (hb hby at_104) rfl (teq hc104_76).2 k)
                refine own_go (T' := T69) (f' := (mkF m 108 #[.val (.int xa), .val (.int xb), .val (.int xc), .val (.int xd), .val (.int xe), .val (.ref b1), .val (.int (xe &&& (3 : Int32))), .val (.int (own_v0_80 xe)), .unset, .unset] [(.int xc)])) ?_ (fun _ k => XS.iloadN X69.here hx rfl (hb hby at_107) rfl  k)
                refine own_go (T' := T69) (f' := (mkF m 112 #[.val (.int xa), .val (.int xb), .val (.int xc), .val (.int xd), .val (.int xe), .val (.ref b1), .val (.int (xe &&& (3 : Int32))), .val (.int (own_v0_80 xe)), .unset, .unset] [(.int xc)])) ?_ (fun _ k => XS.goto X69.here hx rfl (pc0 := 108) (pc' := 112) rfl (hb hby at_108) (by decide) (by decide) k)
                have em77 : (own_v0_84_s0 xa xb xc xd xe) = xc := (Eq.trans (if_neg hc84_72) (Eq.trans (if_neg hc94_74) (if_pos hc104_76)))
                exact ⟨_, ⟨T69, _, (by rw [em77]), X69, e69, N69⟩, fun _ k => k⟩
              · refine own_go (T' := T69) (f' := (mkF m 111 #[.val (.int xa), .val (.int xb), .val (.int xc), .val (.int xd), .val (.int xe), .val (.ref b1), .val (.int (xe &&& (3 : Int32))), .val (.int (own_v0_80 xe)), .unset, .unset] [])) ?_ (fun _ k => XS.icmpYes X69.here hx rfl (pc0 := 104) (pc' := 111) rfl (hb hby at_104) rfl (feq hc104_76).2 (by decide) (by decide) k)
                refine own_go (T' := T69) (f' := (mkF m 112 #[.val (.int xa), .val (.int xb), .val (.int xc), .val (.int xd), .val (.int xe), .val (.ref b1), .val (.int (xe &&& (3 : Int32))), .val (.int (own_v0_80 xe)), .unset, .unset] [(.int xd)])) ?_ (fun _ k => XS.iloadN X69.here hx rfl (hb hby at_111) rfl  k)
                have em78 : (own_v0_84_s0 xa xb xc xd xe) = xd := (Eq.trans (if_neg hc84_72) (Eq.trans (if_neg hc94_74) (if_neg hc104_76)))
                exact ⟨_, ⟨T69, _, (by rw [em78]), X69, e69, N69⟩, fun _ k => k⟩
        refine own_go (T' := T71) (f' := (mkF m 112 #[.val (.int xa), .val (.int xb), .val (.int xc), .val (.int xd), .val (.int xe), .val (.ref b1), .val (.int (xe &&& (3 : Int32))), .val (.int (own_v0_80 xe)), .unset, .unset] [(.int (own_v0_84_s0 xa xb xc xd xe))])) ?_ (mg71)
        refine own_go (T' := T71) (f' := (mkF m 114 #[.val (.int xa), .val (.int xb), .val (.int xc), .val (.int xd), .val (.int xe), .val (.ref b1), .val (.int (xe &&& (3 : Int32))), .val (.int (own_v0_80 xe)), .val (.int (own_v0_84_s0 xa xb xc xd xe)), .unset] [])) ?_ (fun _ k => XS.istore X71.here hx rfl (hb hby at_112) rfl (l' := #[.val (.int xa), .val (.int xb), .val (.int xc), .val (.int xd), .val (.int xe), .val (.ref b1), .val (.int (xe &&& (3 : Int32))), .val (.int (own_v0_80 xe)), .val (.int (own_v0_84_s0 xa xb xc xd xe)), .unset]) rfl k)
        refine own_go (T' := T71) (f' := (mkF m 116 #[.val (.int xa), .val (.int xb), .val (.int xc), .val (.int xd), .val (.int xe), .val (.ref b1), .val (.int (xe &&& (3 : Int32))), .val (.int (own_v0_80 xe)), .val (.int (own_v0_84_s0 xa xb xc xd xe)), .unset] [(.int (own_v0_84_s0 xa xb xc xd xe))])) ?_ (fun _ k => XS.iload X71.here hx rfl (hb hby at_114) rfl  k)
        obtain ⟨_, _, ⟨T79, L79, k79, n79⟩, -, X79, ⟨Lc79, hQ79, l79, y79, z79⟩, st79⟩ := Jvm.LawKit.callS X71 hx (y := (⟨"com/example/monitorgen/monitorgen/trace/InstantClearPinLaw", "ev", "(I)I"⟩ : MethodName)) hown (mvT hZ (hw _ (List.mem_of_getElem? (i := 35) rfl))) (mvT hZ (hw _ (List.mem_of_getElem? (i := 36) rfl))) (mvT hZ (hw _ (List.mem_of_getElem? (i := 37) rfl))) (mvT hZ (hw _ (List.mem_of_getElem? (i := 38) rfl))) (by decide) (backOf (W := 0) (own_rm8 l Z a0 hw [] (own_v0_84_s0 xa xb xc xd xe) T56.heap n0 ZZ56) hZ (hw _ (List.mem_of_getElem? (i := 38) rfl)) (hw _ (List.mem_of_getElem? (i := 37) rfl)) (by decide) (by decide)) (g := (mkF m 116 #[.val (.int xa), .val (.int xb), .val (.int xc), .val (.int xd), .val (.int xe), .val (.ref b1), .val (.int (xe &&& (3 : Int32))), .val (.int (own_v0_80 xe)), .val (.int (own_v0_84_s0 xa xb xc xd xe)), .unset] [(.int (own_v0_84_s0 xa xb xc xd xe))])) rfl (by rw [hml]; rfl) (argsL := [(.int (own_v0_84_s0 xa xb xc xd xe))]) (rest := []) (lenOf own_pd1 rfl) rfl (by show 2 * 0 + _ ≤ _; exact Nat.le_of_eq rfl) (hb hby at_116) (fun _ _ => ⟨rfl, e71, (by decide : 5 + 0 ≤ _), (by decide : 35 + 0 ≤ _)⟩)
        dsimp only [Pt.U, Pt.locs, Pt.cells, Pt.slots] at X79 l79 y79 z79 st79 hQ79
        subst y79 z79
        obtain ⟨rfl, N79q, e79⟩ := hQ79
        have N79 : Fr n0 L79 := l79 ▸ Fr.app N71 N79q
        refine own_go (T' := T79) (f' := (mkF m 119 #[.val (.int xa), .val (.int xb), .val (.int xc), .val (.int xd), .val (.int xe), .val (.ref b1), .val (.int (xe &&& (3 : Int32))), .val (.int (own_v0_80 xe)), .val (.int (own_v0_84_s0 xa xb xc xd xe)), .unset] [(.int (own_f8 (own_v0_84_s0 xa xb xc xd xe)))])) ?_ (st79)
        refine own_go (T' := T79) (f' := (mkF m 121 #[.val (.int xa), .val (.int xb), .val (.int xc), .val (.int xd), .val (.int xe), .val (.ref b1), .val (.int (xe &&& (3 : Int32))), .val (.int (own_v0_80 xe)), .val (.int (own_v0_84_s0 xa xb xc xd xe)), .val (.int (own_f8 (own_v0_84_s0 xa xb xc xd xe)))] [])) ?_ (fun _ k => XS.istore X79.here hx rfl (hb hby at_119) rfl (l' := #[.val (.int xa), .val (.int xb), .val (.int xc), .val (.int xd), .val (.int xe), .val (.ref b1), .val (.int (xe &&& (3 : Int32))), .val (.int (own_v0_80 xe)), .val (.int (own_v0_84_s0 xa xb xc xd xe)), .val (.int (own_f8 (own_v0_84_s0 xa xb xc xd xe)))]) rfl k)
        refine own_go (T' := T79) (f' := (mkF m 123 #[.val (.int xa), .val (.int xb), .val (.int xc), .val (.int xd), .val (.int xe), .val (.ref b1), .val (.int (xe &&& (3 : Int32))), .val (.int (own_v0_80 xe)), .val (.int (own_v0_84_s0 xa xb xc xd xe)), .val (.int (own_f8 (own_v0_84_s0 xa xb xc xd xe)))] [(.ref b1)])) ?_ (fun _ k => XS.aload X79.here hx rfl (hb hby at_121) rfl rfl k)
        refine own_go (T' := T79) (f' := (mkF m 125 #[.val (.int xa), .val (.int xb), .val (.int xc), .val (.int xd), .val (.int xe), .val (.ref b1), .val (.int (xe &&& (3 : Int32))), .val (.int (own_v0_80 xe)), .val (.int (own_v0_84_s0 xa xb xc xd xe)), .val (.int (own_f8 (own_v0_84_s0 xa xb xc xd xe)))] [(.int (own_f8 (own_v0_84_s0 xa xb xc xd xe))), (.ref b1)])) ?_ (fun _ k => XS.iload X79.here hx rfl (hb hby at_123) rfl  k)
        obtain ⟨cq80, kq80, qa80, qb80, qc80⟩ := isOf hZ e79 fa57
        obtain ⟨_, _, ⟨T80, L80, k80, n80⟩, -, X80, ⟨Lc80, hQ80, l80, y80, z80⟩, st80⟩ := X79.virtualBack hx (y := (⟨"com/example/monitorgen/monitorgen/trace/Instant", "add", "(I)V"⟩ : MethodName)) (z := (⟨"com/example/monitorgen/monitorgen/trace/Instant", "add", "(I)V"⟩ : MethodName)) hown (mvT hZ (hw _ (List.mem_of_getElem? (i := 39) rfl))) (mvT hZ (hw _ (List.mem_of_getElem? (i := 40) rfl))) (notFace_of_selects (args := #[]) (mvT hZ (hw _ (List.mem_of_getElem? (i := 42) rfl)))) (mvT hZ (hw _ (List.mem_of_getElem? (i := 42) rfl))) (mvT hZ (hw _ (List.mem_of_getElem? (i := 41) rfl))) (by decide) (backOf (W := 0) (own_rm10 l Z a0 hw [] b1 (own_f8 (own_v0_84_s0 xa xb xc xd xe)) oe_2 oc_2 oo_2 os_2 (0 : Int32) (0 : Int64) (0 : Int64) LE__43 LC__43 LO__43 [(0 : Int32), (0 : Int32), (0 : Int32), (0 : Int32), (0 : Int32), (0 : Int32), (0 : Int32), (0 : Int32), (0 : Int32), (0 : Int32), (0 : Int32), (0 : Int32), (0 : Int32), (0 : Int32), (0 : Int32), (0 : Int32)] 0 T56.heap n0 ZZ56 fa57 P56_0 P56_1 P56_2 P56_3 P56_4 P56_5 P56_6 fa65 fa66 fa67 P56_7 g_b1 g_oe_2 g_oc_2 g_oo_2 g_os_2 P2_4 P2_5 P2_6 P2_7 P2_8 P2_9 P2_10 P2_11 P2_12 P2_13 (own_inv1 _) (by decide)) hZ (hw _ (List.mem_of_getElem? (i := 43) rfl)) (hw _ (List.mem_of_getElem? (i := 2) rfl)) (by decide) (by decide)) qa80 qc80 (g := (mkF m 125 #[.val (.int xa), .val (.int xb), .val (.int xc), .val (.int xd), .val (.int xe), .val (.ref b1), .val (.int (xe &&& (3 : Int32))), .val (.int (own_v0_80 xe)), .val (.int (own_v0_84_s0 xa xb xc xd xe)), .val (.int (own_f8 (own_v0_84_s0 xa xb xc xd xe)))] [(.int (own_f8 (own_v0_84_s0 xa xb xc xd xe))), (.ref b1)])) rfl (by rw [hml]; rfl) (Steps.refl _) (argsL := [(.int (own_f8 (own_v0_84_s0 xa xb xc xd xe)))]) (rest := []) (lenOf own_pd2 rfl) rfl (by show 2 * 0 + _ ≤ _; exact Nat.le_of_eq rfl) (hb hby at_125) (fun _ _ => ⟨rfl, e79, (by decide : 5 + 0 ≤ _), (by decide : 35 + 0 ≤ _)⟩)
        dsimp only [Pt.U, Pt.locs, Pt.cells, Pt.slots] at X80 l80 y80 z80 st80 hQ80
        subst y80 z80
        obtain ⟨nd__80, tt__80, ig__80, LE__80, LC__80, LO__80, LS__80, rfl, N80q, K80, P80_0, P80_1, P80_2, P80_3, P80_4, P80_5, P80_6, P80_7, P80_8, P80_9, P80_10, P80_11, P80_12⟩ := hQ80
        have fa81 := fa57.keep K80
        have KK80 : Keep h0 T80.heap [] := KK56.trans K80 (allS (Or.inr sz_b1) (allS (Or.inr sz_oe_2) (allS (Or.inr sz_oc_2) (allS (Or.inr sz_oo_2) (allS (Or.inr sz_os_2) all0)))))
        have ZZ80 : n0 ≤ T80.heap.size := Nat.le_trans ZZ56 K80.1
        have N80 : Fr n0 L80 := l80 ▸ Fr.app N79 N80q
        refine own_go (T' := T80) (f' := (mkF m 128 #[.val (.int xa), .val (.int xb), .val (.int xc), .val (.int xd), .val (.int xe), .val (.ref b1), .val (.int (xe &&& (3 : Int32))), .val (.int (own_v0_80 xe)), .val (.int (own_v0_84_s0 xa xb xc xd xe)), .val (.int (own_f8 (own_v0_84_s0 xa xb xc xd xe)))] [])) ?_ (fun _ k => st80.trans k)
        refine own_go (T' := T80) (f' := (mkF m 130 #[.val (.int xa), .val (.int xb), .val (.int xc), .val (.int xd), .val (.int xe), .val (.ref b1), .val (.int (xe &&& (3 : Int32))), .val (.int (own_v0_80 xe)), .val (.int (own_v0_84_s0 xa xb xc xd xe)), .val (.int (own_f8 (own_v0_84_s0 xa xb xc xd xe)))] [(.int (own_f8 (own_v0_84_s0 xa xb xc xd xe)))])) ?_ (fun _ k => XS.iload X80.here hx rfl (hb hby at_128) rfl  k)
        by_cases hc130_93 : (own_f8 (own_v0_84_s0 xa xb xc xd xe)) < (0 : Int32)
        · refine own_go (T' := T80) (f' := (mkF m 133 #[.val (.int xa), .val (.int xb), .val (.int xc), .val (.int xd), .val (.int xe), .val (.ref b1), .val (.int (xe &&& (3 : Int32))), .val (.int (own_v0_80 xe)), .val (.int (own_v0_84_s0 xa xb xc xd xe)), .val (.int (own_f8 (own_v0_84_s0 xa xb xc xd xe)))] [])) ?_ (fun _ k => XS.ifNo X80.here hx rfl (hb hby at_130) rfl ((if0 _ _).trans (tlt hc130_93).2.1) k)
          refine own_go (T' := T80) (f' := (mkF m 135 #[.val (.int xa), .val (.int xb), .val (.int xc), .val (.int xd), .val (.int xe), .val (.ref b1), .val (.int (xe &&& (3 : Int32))), .val (.int (own_v0_80 xe)), .val (.int (own_v0_84_s0 xa xb xc xd xe)), .val (.int (own_f8 (own_v0_84_s0 xa xb xc xd xe)))] [(.ref b1)])) ?_ (fun _ k => XS.aload X80.here hx rfl (hb hby at_133) rfl rfl k)
          obtain ⟨cq94, kq94, qa94, qb94, qc94⟩ := isOf hZ rfl fa81
          obtain ⟨_, _, ⟨T94, L94, k94, n94⟩, -, X94, ⟨Lc94, hQ94, l94, y94, z94⟩, st94⟩ := X80.virtualBack hx (y := (⟨"com/example/monitorgen/monitorgen/trace/Instant", "ignored", "()J"⟩ : MethodName)) (z := (⟨"com/example/monitorgen/monitorgen/trace/Instant", "ignored", "()J"⟩ : MethodName)) hown (mvT hZ (hw _ (List.mem_of_getElem? (i := 65) rfl))) (mvT hZ (hw _ (List.mem_of_getElem? (i := 66) rfl))) (notFace_of_selects (args := #[]) (mvT hZ (hw _ (List.mem_of_getElem? (i := 68) rfl)))) (mvT hZ (hw _ (List.mem_of_getElem? (i := 68) rfl))) (mvT hZ (hw _ (List.mem_of_getElem? (i := 67) rfl))) (by decide) (backOf (W := 0) (own_rm4 l Z a0 hw [] b1 ig__80 T80.heap n0 ZZ80 P80_6) hZ (hw _ (List.mem_of_getElem? (i := 69) rfl)) (hw _ (List.mem_of_getElem? (i := 2) rfl)) (by decide) (by decide)) qa94 qc94 (g := (mkF m 135 #[.val (.int xa), .val (.int xb), .val (.int xc), .val (.int xd), .val (.int xe), .val (.ref b1), .val (.int (xe &&& (3 : Int32))), .val (.int (own_v0_80 xe)), .val (.int (own_v0_84_s0 xa xb xc xd xe)), .val (.int (own_f8 (own_v0_84_s0 xa xb xc xd xe)))] [(.ref b1)])) rfl (by rw [hml]; rfl) (Steps.refl _) (argsL := []) (rest := []) (lenOf own_pd4 rfl) rfl (by show 2 * 0 + _ ≤ _; exact Nat.le_of_eq rfl) (hb hby at_135) (fun _ _ => ⟨rfl, rfl, (by decide : 5 + 0 ≤ _), (by decide : 35 + 0 ≤ _)⟩)
          dsimp only [Pt.U, Pt.locs, Pt.cells, Pt.slots] at X94 l94 y94 z94 st94 hQ94
          subst y94 z94
          obtain ⟨rfl, N94q, e94⟩ := hQ94
          have N94 : Fr n0 L94 := l94 ▸ Fr.app N80 N94q
          refine own_go (T' := T94) (f' := (mkF m 138 #[.val (.int xa), .val (.int xb), .val (.int xc), .val (.int xd), .val (.int xe), .val (.ref b1), .val (.int (xe &&& (3 : Int32))), .val (.int (own_v0_80 xe)), .val (.int (own_v0_84_s0 xa xb xc xd xe)), .val (.int (own_f8 (own_v0_84_s0 xa xb xc xd xe)))] [(.long (own_f4 ig__80))])) ?_ (fun _ k => st94.trans k)
          refine own_go (T' := T94) (f' := (mkF m 139 #[.val (.int xa), .val (.int xb), .val (.int xc), .val (.int xd), .val (.int xe), .val (.ref b1), .val (.int (xe &&& (3 : Int32))), .val (.int (own_v0_80 xe)), .val (.int (own_v0_84_s0 xa xb xc xd xe)), .val (.int (own_f8 (own_v0_84_s0 xa xb xc xd xe)))] [(.long (1 : Int64)), (.long (own_f4 ig__80))])) ?_ (fun _ k => XS.lconst X94.here hx rfl (hb hby at_138) k)
          refine own_go (T' := T94) (f' := (mkF m 140 #[.val (.int xa), .val (.int xb), .val (.int xc), .val (.int xd), .val (.int xe), .val (.ref b1), .val (.int (xe &&& (3 : Int32))), .val (.int (own_v0_80 xe)), .val (.int (own_v0_84_s0 xa xb xc xd xe)), .val (.int (own_f8 (own_v0_84_s0 xa xb xc xd xe)))] [(.int (lcmpW (own_f4 ig__80) (1 : Int64)))])) ?_ (fun _ k => XS.lcmp X94.here hx rfl (hb hby at_139) rfl k)
          have hk140_95 : (lcmpW (own_f4 ig__80) (1 : Int64)) = (0 : Int32) := (own_t_ign P80_12 hc130_93)
          refine own_go (T' := T94) (f' := (mkF m 143 #[.val (.int xa), .val (.int xb), .val (.int xc), .val (.int xd), .val (.int xe), .val (.ref b1), .val (.int (xe &&& (3 : Int32))), .val (.int (own_v0_80 xe)), .val (.int (own_v0_84_s0 xa xb xc xd xe)), .val (.int (own_f8 (own_v0_84_s0 xa xb xc xd xe)))] [])) ?_ (fun _ k => XS.ifNo X94.here hx rfl (hb hby at_140) rfl ((if0 _ _).trans (teq hk140_95).2) k)
          refine own_go (T' := T94) (f' := (mkF m 145 #[.val (.int xa), .val (.int xb), .val (.int xc), .val (.int xd), .val (.int xe), .val (.ref b1), .val (.int (xe &&& (3 : Int32))), .val (.int (own_v0_80 xe)), .val (.int (own_v0_84_s0 xa xb xc xd xe)), .val (.int (own_f8 (own_v0_84_s0 xa xb xc xd xe)))] [(.ref b1)])) ?_ (fun _ k => XS.aload X94.here hx rfl (hb hby at_143) rfl rfl k)
          obtain ⟨cq96, kq96, qa96, qb96, qc96⟩ := isOf hZ e94 fa81
          obtain ⟨_, _, ⟨T96, L96, k96, n96⟩, -, X96, ⟨Lc96, hQ96, l96, y96, z96⟩, st96⟩ := X94.virtualBack hx (y := (⟨"com/example/monitorgen/monitorgen/trace/Instant", "events", "()J"⟩ : MethodName)) (z := (⟨"com/example/monitorgen/monitorgen/trace/Instant", "events", "()J"⟩ : MethodName)) hown (mvT hZ (hw _ (List.mem_of_getElem? (i := 60) rfl))) (mvT hZ (hw _ (List.mem_of_getElem? (i := 61) rfl))) (notFace_of_selects (args := #[]) (mvT hZ (hw _ (List.mem_of_getElem? (i := 63) rfl)))) (mvT hZ (hw _ (List.mem_of_getElem? (i := 63) rfl))) (mvT hZ (hw _ (List.mem_of_getElem? (i := 62) rfl))) (by decide) (backOf (W := 0) (own_rm3 l Z a0 hw [] b1 tt__80 T80.heap n0 ZZ80 P80_5) hZ (hw _ (List.mem_of_getElem? (i := 64) rfl)) (hw _ (List.mem_of_getElem? (i := 2) rfl)) (by decide) (by decide)) qa96 qc96 (g := (mkF m 145 #[.val (.int xa), .val (.int xb), .val (.int xc), .val (.int xd), .val (.int xe), .val (.ref b1), .val (.int (xe &&& (3 : Int32))), .val (.int (own_v0_80 xe)), .val (.int (own_v0_84_s0 xa xb xc xd xe)), .val (.int (own_f8 (own_v0_84_s0 xa xb xc xd xe)))] [(.ref b1)])) rfl (by rw [hml]; rfl) (Steps.refl _) (argsL := []) (rest := []) (lenOf own_pd4 rfl) rfl (by show 2 * 0 + _ ≤ _; exact Nat.le_of_eq rfl) (hb hby at_145) (fun _ _ => ⟨rfl, e94, (by decide : 5 + 0 ≤ _), (by decide : 35 + 0 ≤ _)⟩)
          dsimp only [Pt.U, Pt.locs, Pt.cells, Pt.slots] at X96 l96 y96 z96 st96 hQ96
          subst y96 z96
          obtain ⟨rfl, N96q, e96⟩ := hQ96
          have N96 : Fr n0 L96 := l96 ▸ Fr.app N94 N96q
          refine own_go (T' := T96) (f' := (mkF m 148 #[.val (.int xa), .val (.int xb), .val (.int xc), .val (.int xd), .val (.int xe), .val (.ref b1), .val (.int (xe &&& (3 : Int32))), .val (.int (own_v0_80 xe)), .val (.int (own_v0_84_s0 xa xb xc xd xe)), .val (.int (own_f8 (own_v0_84_s0 xa xb xc xd xe)))] [(.long (own_f3 tt__80))])) ?_ (fun _ k => st96.trans k)
          refine own_go (T' := T96) (f' := (mkF m 149 #[.val (.int xa), .val (.int xb), .val (.int xc), .val (.int xd), .val (.int xe), .val (.ref b1), .val (.int (xe &&& (3 : Int32))), .val (.int (own_v0_80 xe)), .val (.int (own_v0_84_s0 xa xb xc xd xe)), .val (.int (own_f8 (own_v0_84_s0 xa xb xc xd xe)))] [(.long (0 : Int64)), (.long (own_f3 tt__80))])) ?_ (fun _ k => XS.lconst X96.here hx rfl (hb hby at_148) k)
          refine own_go (T' := T96) (f' := (mkF m 150 #[.val (.int xa), .val (.int xb), .val (.int xc), .val (.int xd), .val (.int xe), .val (.ref b1), .val (.int (xe &&& (3 : Int32))), .val (.int (own_v0_80 xe)), .val (.int (own_v0_84_s0 xa xb xc xd xe)), .val (.int (own_f8 (own_v0_84_s0 xa xb xc xd xe)))] [(.int (lcmpW (own_f3 tt__80) (0 : Int64)))])) ?_ (fun _ k => XS.lcmp X96.here hx rfl (hb hby at_149) rfl k)
          have hk150_97 : (lcmpW (own_f3 tt__80) (0 : Int64)) = (0 : Int32) := (own_t_tot0 P80_12 hc130_93)
          refine own_go (T' := T96) (f' := (mkF m 153 #[.val (.int xa), .val (.int xb), .val (.int xc), .val (.int xd), .val (.int xe), .val (.ref b1), .val (.int (xe &&& (3 : Int32))), .val (.int (own_v0_80 xe)), .val (.int (own_v0_84_s0 xa xb xc xd xe)), .val (.int (own_f8 (own_v0_84_s0 xa xb xc xd xe)))] [])) ?_ (fun _ k => XS.ifNo X96.here hx rfl (hb hby at_150) rfl ((if0 _ _).trans (teq hk150_97).2) k)
          refine own_go (T' := T96) (f' := (mkF m 155 #[.val (.int xa), .val (.int xb), .val (.int xc), .val (.int xd), .val (.int xe), .val (.ref b1), .val (.int (xe &&& (3 : Int32))), .val (.int (own_v0_80 xe)), .val (.int (own_v0_84_s0 xa xb xc xd xe)), .val (.int (own_f8 (own_v0_84_s0 xa xb xc xd xe)))] [(.ref b1)])) ?_ (fun _ k => XS.aload X96.here hx rfl (hb hby at_153) rfl rfl k)
          obtain ⟨cq98, kq98, qa98, qb98, qc98⟩ := isOf hZ e96 fa81
          obtain ⟨_, _, ⟨T98, L98, k98, n98⟩, -, X98, ⟨Lc98, hQ98, l98, y98, z98⟩, st98⟩ := X96.virtualBack hx (y := (⟨"com/example/monitorgen/monitorgen/trace/Instant", "distinct", "()I"⟩ : MethodName)) (z := (⟨"com/example/monitorgen/monitorgen/trace/Instant", "distinct", "()I"⟩ : MethodName)) hown (mvT hZ (hw _ (List.mem_of_getElem? (i := 45) rfl))) (mvT hZ (hw _ (List.mem_of_getElem? (i := 46) rfl))) (notFace_of_selects (args := #[]) (mvT hZ (hw _ (List.mem_of_getElem? (i := 48) rfl)))) (mvT hZ (hw _ (List.mem_of_getElem? (i := 48) rfl))) (mvT hZ (hw _ (List.mem_of_getElem? (i := 47) rfl))) (by decide) (backOf (W := 0) (own_rm2 l Z a0 hw [] b1 nd__80 T80.heap n0 ZZ80 P80_4) hZ (hw _ (List.mem_of_getElem? (i := 49) rfl)) (hw _ (List.mem_of_getElem? (i := 2) rfl)) (by decide) (by decide)) qa98 qc98 (g := (mkF m 155 #[.val (.int xa), .val (.int xb), .val (.int xc), .val (.int xd), .val (.int xe), .val (.ref b1), .val (.int (xe &&& (3 : Int32))), .val (.int (own_v0_80 xe)), .val (.int (own_v0_84_s0 xa xb xc xd xe)), .val (.int (own_f8 (own_v0_84_s0 xa xb xc xd xe)))] [(.ref b1)])) rfl (by rw [hml]; rfl) (Steps.refl _) (argsL := []) (rest := []) (lenOf own_pd5 rfl) rfl (by show 2 * 0 + _ ≤ _; exact Nat.le_of_eq rfl) (hb hby at_155) (fun _ _ => ⟨rfl, e96, (by decide : 5 + 0 ≤ _), (by decide : 35 + 0 ≤ _)⟩)
          dsimp only [Pt.U, Pt.locs, Pt.cells, Pt.slots] at X98 l98 y98 z98 st98 hQ98
          subst y98 z98
          obtain ⟨rfl, N98q, e98⟩ := hQ98
          have N98 : Fr n0 L98 := l98 ▸ Fr.app N96 N98q
          refine own_go (T' := T98) (f' := (mkF m 158 #[.val (.int xa), .val (.int xb), .val (.int xc), .val (.int xd), .val (.int xe), .val (.ref b1), .val (.int (xe &&& (3 : Int32))), .val (.int (own_v0_80 xe)), .val (.int (own_v0_84_s0 xa xb xc xd xe)), .val (.int (own_f8 (own_v0_84_s0 xa xb xc xd xe)))] [(.int (own_f2 nd__80))])) ?_ (fun _ k => st98.trans k)
          have hk158_99 : (own_f2 nd__80) = (0 : Int32) := (own_t_nd0 P80_12 hc130_93)
          refine own_go (T' := T98) (f' := (mkF m 161 #[.val (.int xa), .val (.int xb), .val (.int xc), .val (.int xd), .val (.int xe), .val (.ref b1), .val (.int (xe &&& (3 : Int32))), .val (.int (own_v0_80 xe)), .val (.int (own_v0_84_s0 xa xb xc xd xe)), .val (.int (own_f8 (own_v0_84_s0 xa xb xc xd xe)))] [])) ?_ (fun _ k => XS.ifNo X98.here hx rfl (hb hby at_158) rfl ((if0 _ _).trans (teq hk158_99).2) k)
          refine own_go (T' := T98) (f' := (mkF m 162 #[.val (.int xa), .val (.int xb), .val (.int xc), .val (.int xd), .val (.int xe), .val (.ref b1), .val (.int (xe &&& (3 : Int32))), .val (.int (own_v0_80 xe)), .val (.int (own_v0_84_s0 xa xb xc xd xe)), .val (.int (own_f8 (own_v0_84_s0 xa xb xc xd xe)))] [(.int (1 : Int32))])) ?_ (fun _ k => XS.iconst X98.here hx rfl (hb hby at_161) k)
          refine own_go (T' := T98) (f' := (mkF m 166 #[.val (.int xa), .val (.int xb), .val (.int xc), .val (.int xd), .val (.int xe), .val (.ref b1), .val (.int (xe &&& (3 : Int32))), .val (.int (own_v0_80 xe)), .val (.int (own_v0_84_s0 xa xb xc xd xe)), .val (.int (own_f8 (own_v0_84_s0 xa xb xc xd xe)))] [(.int (1 : Int32))])) ?_ (fun _ k => XS.goto X98.here hx rfl (pc0 := 162) (pc' := 166) rfl (hb hby at_162) (by decide) (by decide) k)
          obtain ⟨fs100, hr100, hrun100, hended100, hW100, hsame100⟩ := X98.leave (v := some (.int (1 : Int32))) (fun h => by rw [Bd.returns] at h; cases h)
          refine ⟨_, ⟨_, hrun100, hended100, _, _, rfl, ?_, ⟨_, rfl⟩, hW100, hsame100.mono (by decide) (by decide)⟩, fun _ k => (own_retZ X98 hx Bd.returns (by decide) (hb hby at_166) hr100).trans k⟩
          show own_Q0 Z xa xb xc xd xe h0 n0 _ T98.heap _
          rw [e98]
          exact ⟨rfl, N98⟩
        · refine own_go (T' := T80) (f' := (mkF m 167 #[.val (.int xa), .val (.int xb), .val (.int xc), .val (.int xd), .val (.int xe), .val (.ref b1), .val (.int (xe &&& (3 : Int32))), .val (.int (own_v0_80 xe)), .val (.int (own_v0_84_s0 xa xb xc xd xe)), .val (.int (own_f8 (own_v0_84_s0 xa xb xc xd xe)))] [])) ?_ (fun _ k => XS.ifYes X80.here hx rfl (pc0 := 130) (pc' := 167) rfl (hb hby at_130) rfl ((if0 _ _).trans (flt hc130_93).2.1) (by decide) (by decide) k)
          refine own_go (T' := T80) (f' := (mkF m 169 #[.val (.int xa), .val (.int xb), .val (.int xc), .val (.int xd), .val (.int xe), .val (.ref b1), .val (.int (xe &&& (3 : Int32))), .val (.int (own_v0_80 xe)), .val (.int (own_v0_84_s0 xa xb xc xd xe)), .val (.int (own_f8 (own_v0_84_s0 xa xb xc xd xe)))] [(.ref b1)])) ?_ (fun _ k => XS.aload X80.here hx rfl (hb hby at_167) rfl rfl k)
          obtain ⟨cq101, kq101, qa101, qb101, qc101⟩ := isOf hZ rfl fa81
          obtain ⟨_, _, ⟨T101, L101, k101, n101⟩, -, X101, ⟨Lc101, hQ101, l101, y101, z101⟩, st101⟩ := X80.virtualBack hx (y := (⟨"com/example/monitorgen/monitorgen/trace/Instant", "distinct", "()I"⟩ : MethodName)) (z := (⟨"com/example/monitorgen/monitorgen/trace/Instant", "distinct", "()I"⟩ : MethodName)) hown (mvT hZ (hw _ (List.mem_of_getElem? (i := 45) rfl))) (mvT hZ (hw _ (List.mem_of_getElem? (i := 46) rfl))) (notFace_of_selects (args := #[]) (mvT hZ (hw _ (List.mem_of_getElem? (i := 48) rfl)))) (mvT hZ (hw _ (List.mem_of_getElem? (i := 48) rfl))) (mvT hZ (hw _ (List.mem_of_getElem? (i := 47) rfl))) (by decide) (backOf (W := 0) (own_rm2 l Z a0 hw [] b1 nd__80 T80.heap n0 ZZ80 P80_4) hZ (hw _ (List.mem_of_getElem? (i := 49) rfl)) (hw _ (List.mem_of_getElem? (i := 2) rfl)) (by decide) (by decide)) qa101 qc101 (g := (mkF m 169 #[.val (.int xa), .val (.int xb), .val (.int xc), .val (.int xd), .val (.int xe), .val (.ref b1), .val (.int (xe &&& (3 : Int32))), .val (.int (own_v0_80 xe)), .val (.int (own_v0_84_s0 xa xb xc xd xe)), .val (.int (own_f8 (own_v0_84_s0 xa xb xc xd xe)))] [(.ref b1)])) rfl (by rw [hml]; rfl) (Steps.refl _) (argsL := []) (rest := []) (lenOf own_pd5 rfl) rfl (by show 2 * 0 + _ ≤ _; exact Nat.le_of_eq rfl) (hb hby at_169) (fun _ _ => ⟨rfl, rfl, (by decide : 5 + 0 ≤ _), (by decide : 35 + 0 ≤ _)⟩)
          dsimp only [Pt.U, Pt.locs, Pt.cells, Pt.slots] at X101 l101 y101 z101 st101 hQ101
          subst y101 z101
          obtain ⟨rfl, N101q, e101⟩ := hQ101
          have N101 : Fr n0 L101 := l101 ▸ Fr.app N80 N101q
          refine own_go (T' := T101) (f' := (mkF m 172 #[.val (.int xa), .val (.int xb), .val (.int xc), .val (.int xd), .val (.int xe), .val (.ref b1), .val (.int (xe &&& (3 : Int32))), .val (.int (own_v0_80 xe)), .val (.int (own_v0_84_s0 xa xb xc xd xe)), .val (.int (own_f8 (own_v0_84_s0 xa xb xc xd xe)))] [(.int (own_f2 nd__80))])) ?_ (fun _ k => st101.trans k)
          refine own_go (T' := T101) (f' := (mkF m 173 #[.val (.int xa), .val (.int xb), .val (.int xc), .val (.int xd), .val (.int xe), .val (.ref b1), .val (.int (xe &&& (3 : Int32))), .val (.int (own_v0_80 xe)), .val (.int (own_v0_84_s0 xa xb xc xd xe)), .val (.int (own_f8 (own_v0_84_s0 xa xb xc xd xe)))] [(.int (1 : Int32)), (.int (own_f2 nd__80))])) ?_ (fun _ k => XS.iconst X101.here hx rfl (hb hby at_172) k)
          have hk173_102 : (own_f2 nd__80) = (1 : Int32) := (own_t_nd1 P80_12 hc130_93)
          refine own_go (T' := T101) (f' := (mkF m 176 #[.val (.int xa), .val (.int xb), .val (.int xc), .val (.int xd), .val (.int xe), .val (.ref b1), .val (.int (xe &&& (3 : Int32))), .val (.int (own_v0_80 xe)), .val (.int (own_v0_84_s0 xa xb xc xd xe)), .val (.int (own_f8 (own_v0_84_s0 xa xb xc xd xe)))] [])) ?_ (fun _ k => XS.icmpNo X101.here hx rfl (hb hby at_173) rfl (teq hk173_102).2 k)
          refine own_go (T' := T101) (f' := (mkF m 178 #[.val (.int xa), .val (.int xb), .val (.int xc), .val (.int xd), .val (.int xe), .val (.ref b1), .val (.int (xe &&& (3 : Int32))), .val (.int (own_v0_80 xe)), .val (.int (own_v0_84_s0 xa xb xc xd xe)), .val (.int (own_f8 (own_v0_84_s0 xa xb xc xd xe)))] [(.ref b1)])) ?_ (fun _ k => XS.aload X101.here hx rfl (hb hby at_176) rfl rfl k)
          refine own_go (T' := T101) (f' := (mkF m 179 #[.val (.int xa), .val (.int xb), .val (.int xc), .val (.int xd), .val (.int xe), .val (.ref b1), .val (.int (xe &&& (3 : Int32))), .val (.int (own_v0_80 xe)), .val (.int (own_v0_84_s0 xa xb xc xd xe)), .val (.int (own_f8 (own_v0_84_s0 xa xb xc xd xe)))] [(.int (0 : Int32)), (.ref b1)])) ?_ (fun _ k => XS.iconst X101.here hx rfl (hb hby at_178) k)
          obtain ⟨cq103, kq103, qa103, qb103, qc103⟩ := isOf hZ e101 fa81
          obtain ⟨_, _, ⟨T103, L103, k103, n103⟩, -, X103, ⟨Lc103, hQ103, l103, y103, z103⟩, st103⟩ := X101.virtualBack hx (y := (⟨"com/example/monitorgen/monitorgen/trace/Instant", "event", "(I)I"⟩ : MethodName)) (z := (⟨"com/example/monitorgen/monitorgen/trace/Instant", "event", "(I)I"⟩ : MethodName)) hown (mvT hZ (hw _ (List.mem_of_getElem? (i := 50) rfl))) (mvT hZ (hw _ (List.mem_of_getElem? (i := 51) rfl))) (notFace_of_selects (args := #[]) (mvT hZ (hw _ (List.mem_of_getElem? (i := 53) rfl)))) (mvT hZ (hw _ (List.mem_of_getElem? (i := 53) rfl))) (mvT hZ (hw _ (List.mem_of_getElem? (i := 52) rfl))) (by decide) (backOf (W := 0) (own_rm6 l Z a0 hw [] b1 oe_2 LE__80 T80.heap n0 ZZ80 P80_0 P80_7) hZ (hw _ (List.mem_of_getElem? (i := 54) rfl)) (hw _ (List.mem_of_getElem? (i := 2) rfl)) (by decide) (by decide)) qa103 qc103 (g := (mkF m 179 #[.val (.int xa), .val (.int xb), .val (.int xc), .val (.int xd), .val (.int xe), .val (.ref b1), .val (.int (xe &&& (3 : Int32))), .val (.int (own_v0_80 xe)), .val (.int (own_v0_84_s0 xa xb xc xd xe)), .val (.int (own_f8 (own_v0_84_s0 xa xb xc xd xe)))] [(.int (0 : Int32)), (.ref b1)])) rfl (by rw [hml]; rfl) (Steps.refl _) (argsL := [(.int (0 : Int32))]) (rest := []) (lenOf own_pd1 rfl) rfl (by show 2 * 0 + _ ≤ _; exact Nat.le_of_eq rfl) (hb hby at_179) (fun _ _ => ⟨rfl, e101, (by decide : 5 + 0 ≤ _), (by decide : 35 + 0 ≤ _)⟩)
          dsimp only [Pt.U, Pt.locs, Pt.cells, Pt.slots] at X103 l103 y103 z103 st103 hQ103
          subst y103 z103
          obtain ⟨rfl, N103q, e103⟩ := hQ103
          have N103 : Fr n0 L103 := l103 ▸ Fr.app N101 N103q
          refine own_go (T' := T103) (f' := (mkF m 182 #[.val (.int xa), .val (.int xb), .val (.int xc), .val (.int xd), .val (.int xe), .val (.ref b1), .val (.int (xe &&& (3 : Int32))), .val (.int (own_v0_80 xe)), .val (.int (own_v0_84_s0 xa xb xc xd xe)), .val (.int (own_f8 (own_v0_84_s0 xa xb xc xd xe)))] [(.int (own_f6 LE__80))])) ?_ (fun _ k => st103.trans k)
          refine own_go (T' := T103) (f' := (mkF m 184 #[.val (.int xa), .val (.int xb), .val (.int xc), .val (.int xd), .val (.int xe), .val (.ref b1), .val (.int (xe &&& (3 : Int32))), .val (.int (own_v0_80 xe)), .val (.int (own_v0_84_s0 xa xb xc xd xe)), .val (.int (own_f8 (own_v0_84_s0 xa xb xc xd xe)))] [(.int (own_f8 (own_v0_84_s0 xa xb xc xd xe))), (.int (own_f6 LE__80))])) ?_ (fun _ k => XS.iload X103.here hx rfl (hb hby at_182) rfl  k)
          have hk184_104 : (own_f6 LE__80) = (own_f8 (own_v0_84_s0 xa xb xc xd xe)) := (own_t_ev P80_12 hc130_93)
          refine own_go (T' := T103) (f' := (mkF m 187 #[.val (.int xa), .val (.int xb), .val (.int xc), .val (.int xd), .val (.int xe), .val (.ref b1), .val (.int (xe &&& (3 : Int32))), .val (.int (own_v0_80 xe)), .val (.int (own_v0_84_s0 xa xb xc xd xe)), .val (.int (own_f8 (own_v0_84_s0 xa xb xc xd xe)))] [])) ?_ (fun _ k => XS.icmpNo X103.here hx rfl (hb hby at_184) rfl (teq hk184_104).2 k)
          refine own_go (T' := T103) (f' := (mkF m 189 #[.val (.int xa), .val (.int xb), .val (.int xc), .val (.int xd), .val (.int xe), .val (.ref b1), .val (.int (xe &&& (3 : Int32))), .val (.int (own_v0_80 xe)), .val (.int (own_v0_84_s0 xa xb xc xd xe)), .val (.int (own_f8 (own_v0_84_s0 xa xb xc xd xe)))] [(.ref b1)])) ?_ (fun _ k => XS.aload X103.here hx rfl (hb hby at_187) rfl rfl k)
          refine own_go (T' := T103) (f' := (mkF m 190 #[.val (.int xa), .val (.int xb), .val (.int xc), .val (.int xd), .val (.int xe), .val (.ref b1), .val (.int (xe &&& (3 : Int32))), .val (.int (own_v0_80 xe)), .val (.int (own_v0_84_s0 xa xb xc xd xe)), .val (.int (own_f8 (own_v0_84_s0 xa xb xc xd xe)))] [(.int (0 : Int32)), (.ref b1)])) ?_ (fun _ k => XS.iconst X103.here hx rfl (hb hby at_189) k)
          obtain ⟨cq105, kq105, qa105, qb105, qc105⟩ := isOf hZ e103 fa81
          obtain ⟨_, _, ⟨T105, L105, k105, n105⟩, -, X105, ⟨Lc105, hQ105, l105, y105, z105⟩, st105⟩ := X103.virtualBack hx (y := (⟨"com/example/monitorgen/monitorgen/trace/Instant", "count", "(I)J"⟩ : MethodName)) (z := (⟨"com/example/monitorgen/monitorgen/trace/Instant", "count", "(I)J"⟩ : MethodName)) hown (mvT hZ (hw _ (List.mem_of_getElem? (i := 55) rfl))) (mvT hZ (hw _ (List.mem_of_getElem? (i := 56) rfl))) (notFace_of_selects (args := #[]) (mvT hZ (hw _ (List.mem_of_getElem? (i := 58) rfl)))) (mvT hZ (hw _ (List.mem_of_getElem? (i := 58) rfl))) (mvT hZ (hw _ (List.mem_of_getElem? (i := 57) rfl))) (by decide) (backOf (W := 0) (own_rm7 l Z a0 hw [] b1 oc_2 LC__80 T80.heap n0 ZZ80 P80_1 P80_8) hZ (hw _ (List.mem_of_getElem? (i := 59) rfl)) (hw _ (List.mem_of_getElem? (i := 2) rfl)) (by decide) (by decide)) qa105 qc105 (g := (mkF m 190 #[.val (.int xa), .val (.int xb), .val (.int xc), .val (.int xd), .val (.int xe), .val (.ref b1), .val (.int (xe &&& (3 : Int32))), .val (.int (own_v0_80 xe)), .val (.int (own_v0_84_s0 xa xb xc xd xe)), .val (.int (own_f8 (own_v0_84_s0 xa xb xc xd xe)))] [(.int (0 : Int32)), (.ref b1)])) rfl (by rw [hml]; rfl) (Steps.refl _) (argsL := [(.int (0 : Int32))]) (rest := []) (lenOf own_pd6 rfl) rfl (by show 2 * 0 + _ ≤ _; exact Nat.le_of_eq rfl) (hb hby at_190) (fun _ _ => ⟨rfl, e103, (by decide : 5 + 0 ≤ _), (by decide : 35 + 0 ≤ _)⟩)
          dsimp only [Pt.U, Pt.locs, Pt.cells, Pt.slots] at X105 l105 y105 z105 st105 hQ105
          subst y105 z105
          obtain ⟨rfl, N105q, e105⟩ := hQ105
          have N105 : Fr n0 L105 := l105 ▸ Fr.app N103 N105q
          refine own_go (T' := T105) (f' := (mkF m 193 #[.val (.int xa), .val (.int xb), .val (.int xc), .val (.int xd), .val (.int xe), .val (.ref b1), .val (.int (xe &&& (3 : Int32))), .val (.int (own_v0_80 xe)), .val (.int (own_v0_84_s0 xa xb xc xd xe)), .val (.int (own_f8 (own_v0_84_s0 xa xb xc xd xe)))] [(.long (own_f7 LC__80))])) ?_ (fun _ k => st105.trans k)
          refine own_go (T' := T105) (f' := (mkF m 194 #[.val (.int xa), .val (.int xb), .val (.int xc), .val (.int xd), .val (.int xe), .val (.ref b1), .val (.int (xe &&& (3 : Int32))), .val (.int (own_v0_80 xe)), .val (.int (own_v0_84_s0 xa xb xc xd xe)), .val (.int (own_f8 (own_v0_84_s0 xa xb xc xd xe)))] [(.long (1 : Int64)), (.long (own_f7 LC__80))])) ?_ (fun _ k => XS.lconst X105.here hx rfl (hb hby at_193) k)
          refine own_go (T' := T105) (f' := (mkF m 195 #[.val (.int xa), .val (.int xb), .val (.int xc), .val (.int xd), .val (.int xe), .val (.ref b1), .val (.int (xe &&& (3 : Int32))), .val (.int (own_v0_80 xe)), .val (.int (own_v0_84_s0 xa xb xc xd xe)), .val (.int (own_f8 (own_v0_84_s0 xa xb xc xd xe)))] [(.int (lcmpW (own_f7 LC__80) (1 : Int64)))])) ?_ (fun _ k => XS.lcmp X105.here hx rfl (hb hby at_194) rfl k)
          have hk195_106 : (lcmpW (own_f7 LC__80) (1 : Int64)) = (0 : Int32) := (own_t_cnt P80_12 hc130_93)
          refine own_go (T' := T105) (f' := (mkF m 198 #[.val (.int xa), .val (.int xb), .val (.int xc), .val (.int xd), .val (.int xe), .val (.ref b1), .val (.int (xe &&& (3 : Int32))), .val (.int (own_v0_80 xe)), .val (.int (own_v0_84_s0 xa xb xc xd xe)), .val (.int (own_f8 (own_v0_84_s0 xa xb xc xd xe)))] [])) ?_ (fun _ k => XS.ifNo X105.here hx rfl (hb hby at_195) rfl ((if0 _ _).trans (teq hk195_106).2) k)
          refine own_go (T' := T105) (f' := (mkF m 200 #[.val (.int xa), .val (.int xb), .val (.int xc), .val (.int xd), .val (.int xe), .val (.ref b1), .val (.int (xe &&& (3 : Int32))), .val (.int (own_v0_80 xe)), .val (.int (own_v0_84_s0 xa xb xc xd xe)), .val (.int (own_f8 (own_v0_84_s0 xa xb xc xd xe)))] [(.ref b1)])) ?_ (fun _ k => XS.aload X105.here hx rfl (hb hby at_198) rfl rfl k)
          obtain ⟨cq107, kq107, qa107, qb107, qc107⟩ := isOf hZ e105 fa81
          obtain ⟨_, _, ⟨T107, L107, k107, n107⟩, -, X107, ⟨Lc107, hQ107, l107, y107, z107⟩, st107⟩ := X105.virtualBack hx (y := (⟨"com/example/monitorgen/monitorgen/trace/Instant", "events", "()J"⟩ : MethodName)) (z := (⟨"com/example/monitorgen/monitorgen/trace/Instant", "events", "()J"⟩ : MethodName)) hown (mvT hZ (hw _ (List.mem_of_getElem? (i := 60) rfl))) (mvT hZ (hw _ (List.mem_of_getElem? (i := 61) rfl))) (notFace_of_selects (args := #[]) (mvT hZ (hw _ (List.mem_of_getElem? (i := 63) rfl)))) (mvT hZ (hw _ (List.mem_of_getElem? (i := 63) rfl))) (mvT hZ (hw _ (List.mem_of_getElem? (i := 62) rfl))) (by decide) (backOf (W := 0) (own_rm3 l Z a0 hw [] b1 tt__80 T80.heap n0 ZZ80 P80_5) hZ (hw _ (List.mem_of_getElem? (i := 64) rfl)) (hw _ (List.mem_of_getElem? (i := 2) rfl)) (by decide) (by decide)) qa107 qc107 (g := (mkF m 200 #[.val (.int xa), .val (.int xb), .val (.int xc), .val (.int xd), .val (.int xe), .val (.ref b1), .val (.int (xe &&& (3 : Int32))), .val (.int (own_v0_80 xe)), .val (.int (own_v0_84_s0 xa xb xc xd xe)), .val (.int (own_f8 (own_v0_84_s0 xa xb xc xd xe)))] [(.ref b1)])) rfl (by rw [hml]; rfl) (Steps.refl _) (argsL := []) (rest := []) (lenOf own_pd4 rfl) rfl (by show 2 * 0 + _ ≤ _; exact Nat.le_of_eq rfl) (hb hby at_200) (fun _ _ => ⟨rfl, e105, (by decide : 5 + 0 ≤ _), (by decide : 35 + 0 ≤ _)⟩)
          dsimp only [Pt.U, Pt.locs, Pt.cells, Pt.slots] at X107 l107 y107 z107 st107 hQ107
          subst y107 z107
          obtain ⟨rfl, N107q, e107⟩ := hQ107
          have N107 : Fr n0 L107 := l107 ▸ Fr.app N105 N107q
          refine own_go (T' := T107) (f' := (mkF m 203 #[.val (.int xa), .val (.int xb), .val (.int xc), .val (.int xd), .val (.int xe), .val (.ref b1), .val (.int (xe &&& (3 : Int32))), .val (.int (own_v0_80 xe)), .val (.int (own_v0_84_s0 xa xb xc xd xe)), .val (.int (own_f8 (own_v0_84_s0 xa xb xc xd xe)))] [(.long (own_f3 tt__80))])) ?_ (fun _ k => st107.trans k)
          refine own_go (T' := T107) (f' := (mkF m 204 #[.val (.int xa), .val (.int xb), .val (.int xc), .val (.int xd), .val (.int xe), .val (.ref b1), .val (.int (xe &&& (3 : Int32))), .val (.int (own_v0_80 xe)), .val (.int (own_v0_84_s0 xa xb xc xd xe)), .val (.int (own_f8 (own_v0_84_s0 xa xb xc xd xe)))] [(.long (1 : Int64)), (.long (own_f3 tt__80))])) ?_ (fun _ k => XS.lconst X107.here hx rfl (hb hby at_203) k)
          refine own_go (T' := T107) (f' := (mkF m 205 #[.val (.int xa), .val (.int xb), .val (.int xc), .val (.int xd), .val (.int xe), .val (.ref b1), .val (.int (xe &&& (3 : Int32))), .val (.int (own_v0_80 xe)), .val (.int (own_v0_84_s0 xa xb xc xd xe)), .val (.int (own_f8 (own_v0_84_s0 xa xb xc xd xe)))] [(.int (lcmpW (own_f3 tt__80) (1 : Int64)))])) ?_ (fun _ k => XS.lcmp X107.here hx rfl (hb hby at_204) rfl k)
          have hk205_108 : (lcmpW (own_f3 tt__80) (1 : Int64)) = (0 : Int32) := (own_t_tot1 P80_12 hc130_93)
          refine own_go (T' := T107) (f' := (mkF m 208 #[.val (.int xa), .val (.int xb), .val (.int xc), .val (.int xd), .val (.int xe), .val (.ref b1), .val (.int (xe &&& (3 : Int32))), .val (.int (own_v0_80 xe)), .val (.int (own_v0_84_s0 xa xb xc xd xe)), .val (.int (own_f8 (own_v0_84_s0 xa xb xc xd xe)))] [])) ?_ (fun _ k => XS.ifNo X107.here hx rfl (hb hby at_205) rfl ((if0 _ _).trans (teq hk205_108).2) k)
          refine own_go (T' := T107) (f' := (mkF m 210 #[.val (.int xa), .val (.int xb), .val (.int xc), .val (.int xd), .val (.int xe), .val (.ref b1), .val (.int (xe &&& (3 : Int32))), .val (.int (own_v0_80 xe)), .val (.int (own_v0_84_s0 xa xb xc xd xe)), .val (.int (own_f8 (own_v0_84_s0 xa xb xc xd xe)))] [(.ref b1)])) ?_ (fun _ k => XS.aload X107.here hx rfl (hb hby at_208) rfl rfl k)
          obtain ⟨cq109, kq109, qa109, qb109, qc109⟩ := isOf hZ e107 fa81
          obtain ⟨_, _, ⟨T109, L109, k109, n109⟩, -, X109, ⟨Lc109, hQ109, l109, y109, z109⟩, st109⟩ := X107.virtualBack hx (y := (⟨"com/example/monitorgen/monitorgen/trace/Instant", "ignored", "()J"⟩ : MethodName)) (z := (⟨"com/example/monitorgen/monitorgen/trace/Instant", "ignored", "()J"⟩ : MethodName)) hown (mvT hZ (hw _ (List.mem_of_getElem? (i := 65) rfl))) (mvT hZ (hw _ (List.mem_of_getElem? (i := 66) rfl))) (notFace_of_selects (args := #[]) (mvT hZ (hw _ (List.mem_of_getElem? (i := 68) rfl)))) (mvT hZ (hw _ (List.mem_of_getElem? (i := 68) rfl))) (mvT hZ (hw _ (List.mem_of_getElem? (i := 67) rfl))) (by decide) (backOf (W := 0) (own_rm4 l Z a0 hw [] b1 ig__80 T80.heap n0 ZZ80 P80_6) hZ (hw _ (List.mem_of_getElem? (i := 69) rfl)) (hw _ (List.mem_of_getElem? (i := 2) rfl)) (by decide) (by decide)) qa109 qc109 (g := (mkF m 210 #[.val (.int xa), .val (.int xb), .val (.int xc), .val (.int xd), .val (.int xe), .val (.ref b1), .val (.int (xe &&& (3 : Int32))), .val (.int (own_v0_80 xe)), .val (.int (own_v0_84_s0 xa xb xc xd xe)), .val (.int (own_f8 (own_v0_84_s0 xa xb xc xd xe)))] [(.ref b1)])) rfl (by rw [hml]; rfl) (Steps.refl _) (argsL := []) (rest := []) (lenOf own_pd4 rfl) rfl (by show 2 * 0 + _ ≤ _; exact Nat.le_of_eq rfl) (hb hby at_210) (fun _ _ => ⟨rfl, e107, (by decide : 5 + 0 ≤ _), (by decide : 35 + 0 ≤ _)⟩)
          dsimp only [Pt.U, Pt.locs, Pt.cells, Pt.slots] at X109 l109 y109 z109 st109 hQ109
          subst y109 z109
          obtain ⟨rfl, N109q, e109⟩ := hQ109
          have N109 : Fr n0 L109 := l109 ▸ Fr.app N107 N109q
          refine own_go (T' := T109) (f' := (mkF m 213 #[.val (.int xa), .val (.int xb), .val (.int xc), .val (.int xd), .val (.int xe), .val (.ref b1), .val (.int (xe &&& (3 : Int32))), .val (.int (own_v0_80 xe)), .val (.int (own_v0_84_s0 xa xb xc xd xe)), .val (.int (own_f8 (own_v0_84_s0 xa xb xc xd xe)))] [(.long (own_f4 ig__80))])) ?_ (fun _ k => st109.trans k)
          refine own_go (T' := T109) (f' := (mkF m 214 #[.val (.int xa), .val (.int xb), .val (.int xc), .val (.int xd), .val (.int xe), .val (.ref b1), .val (.int (xe &&& (3 : Int32))), .val (.int (own_v0_80 xe)), .val (.int (own_v0_84_s0 xa xb xc xd xe)), .val (.int (own_f8 (own_v0_84_s0 xa xb xc xd xe)))] [(.long (0 : Int64)), (.long (own_f4 ig__80))])) ?_ (fun _ k => XS.lconst X109.here hx rfl (hb hby at_213) k)
          refine own_go (T' := T109) (f' := (mkF m 215 #[.val (.int xa), .val (.int xb), .val (.int xc), .val (.int xd), .val (.int xe), .val (.ref b1), .val (.int (xe &&& (3 : Int32))), .val (.int (own_v0_80 xe)), .val (.int (own_v0_84_s0 xa xb xc xd xe)), .val (.int (own_f8 (own_v0_84_s0 xa xb xc xd xe)))] [(.int (lcmpW (own_f4 ig__80) (0 : Int64)))])) ?_ (fun _ k => XS.lcmp X109.here hx rfl (hb hby at_214) rfl k)
          have hk215_110 : (lcmpW (own_f4 ig__80) (0 : Int64)) = (0 : Int32) := (own_t_ign0 P80_12 hc130_93)
          refine own_go (T' := T109) (f' := (mkF m 218 #[.val (.int xa), .val (.int xb), .val (.int xc), .val (.int xd), .val (.int xe), .val (.ref b1), .val (.int (xe &&& (3 : Int32))), .val (.int (own_v0_80 xe)), .val (.int (own_v0_84_s0 xa xb xc xd xe)), .val (.int (own_f8 (own_v0_84_s0 xa xb xc xd xe)))] [])) ?_ (fun _ k => XS.ifNo X109.here hx rfl (hb hby at_215) rfl ((if0 _ _).trans (teq hk215_110).2) k)
          refine own_go (T' := T109) (f' := (mkF m 219 #[.val (.int xa), .val (.int xb), .val (.int xc), .val (.int xd), .val (.int xe), .val (.ref b1), .val (.int (xe &&& (3 : Int32))), .val (.int (own_v0_80 xe)), .val (.int (own_v0_84_s0 xa xb xc xd xe)), .val (.int (own_f8 (own_v0_84_s0 xa xb xc xd xe)))] [(.int (1 : Int32))])) ?_ (fun _ k => XS.iconst X109.here hx rfl (hb hby at_218) k)
          refine own_go (T' := T109) (f' := (mkF m 223 #[.val (.int xa), .val (.int xb), .val (.int xc), .val (.int xd), .val (.int xe), .val (.ref b1), .val (.int (xe &&& (3 : Int32))), .val (.int (own_v0_80 xe)), .val (.int (own_v0_84_s0 xa xb xc xd xe)), .val (.int (own_f8 (own_v0_84_s0 xa xb xc xd xe)))] [(.int (1 : Int32))])) ?_ (fun _ k => XS.goto X109.here hx rfl (pc0 := 219) (pc' := 223) rfl (hb hby at_219) (by decide) (by decide) k)
          obtain ⟨fs111, hr111, hrun111, hended111, hW111, hsame111⟩ := X109.leave (v := some (.int (1 : Int32))) (fun h => by rw [Bd.returns] at h; cases h)
          refine ⟨_, ⟨_, hrun111, hended111, _, _, rfl, ?_, ⟨_, rfl⟩, hW111, hsame111.mono (by decide) (by decide)⟩, fun _ k => (own_retZ X109 hx Bd.returns (by decide) (hb hby at_223) hr111).trans k⟩
          show own_Q0 Z xa xb xc xd xe h0 n0 _ T109.heap _
          rw [e109]
          exact ⟨rfl, N109⟩
      · refine own_go (T' := T28) (f' := (mkF m 59 #[.val (.int xa), .val (.int xb), .val (.int xc), .val (.int xd), .val (.int xe), .val (.ref b1), .val (.int (xe &&& (3 : Int32))), .unset, .unset, .unset] [])) ?_ (fun _ k => XS.icmpYes X28.here hx rfl (pc0 := 47) (pc' := 59) rfl (hb hby at_47) rfl (flt hc47_41).2.2.2 (by decide) (by decide) k)
        refine own_go (T' := T28) (f' := (mkF m 61 #[.val (.int xa), .val (.int xb), .val (.int xc), .val (.int xd), .val (.int xe), .val (.ref b1), .val (.int (xe &&& (3 : Int32))), .unset, .unset, .unset] [(.ref b1)])) ?_ (fun _ k => XS.aload X28.here hx rfl (hb hby at_59) rfl rfl k)
        obtain ⟨cq112, kq112, qa112, qb112, qc112⟩ := isOf hZ rfl fa29
        obtain ⟨_, _, ⟨T112, L112, k112, n112⟩, -, X112, ⟨Lc112, hQ112, l112, y112, z112⟩, st112⟩ := X28.virtualBack hx (y := (⟨"com/example/monitorgen/monitorgen/trace/Instant", "clear", "()V"⟩ : MethodName)) (z := (⟨"com/example/monitorgen/monitorgen/trace/Instant", "clear", "()V"⟩ : MethodName)) hown (mvT hZ (hw _ (List.mem_of_getElem? (i := 19) rfl))) (mvT hZ (hw _ (List.mem_of_getElem? (i := 20) rfl))) (notFace_of_selects (args := #[]) (mvT hZ (hw _ (List.mem_of_getElem? (i := 22) rfl)))) (mvT hZ (hw _ (List.mem_of_getElem? (i := 22) rfl))) (mvT hZ (hw _ (List.mem_of_getElem? (i := 21) rfl))) (by decide) (backOf (W := 0) (own_rm9 l Z a0 hw [] b1 oe_2 oc_2 oo_2 os_2 nd__28 tt__28 ig__28 LE__28 LC__28 LO__28 LS__28 2 T28.heap n0 ZZ28 fa29 P28_0 P28_1 P28_2 P28_3 P28_4 P28_5 P28_6 P28_7 P28_8 P28_9 P28_10 g_b1 g_oe_2 g_oc_2 g_oo_2 g_os_2 P2_4 P2_5 P2_6 P2_7 P2_8 P2_9 P2_10 P2_11 P2_12 P2_13 (P28_11) (by decide)) hZ (hw _ (List.mem_of_getElem? (i := 23) rfl)) (hw _ (List.mem_of_getElem? (i := 2) rfl)) (by decide) (by decide)) qa112 qc112 (g := (mkF m 61 #[.val (.int xa), .val (.int xb), .val (.int xc), .val (.int xd), .val (.int xe), .val (.ref b1), .val (.int (xe &&& (3 : Int32))), .unset, .unset, .unset] [(.ref b1)])) rfl (by rw [hml]; rfl) (Steps.refl _) (argsL := []) (rest := []) (lenOf own_pd0 rfl) rfl (by show 2 * 0 + _ ≤ _; exact Nat.le_of_eq rfl) (hb hby at_61) (fun _ _ => ⟨rfl, rfl, (by decide : 5 + 0 ≤ _), (by decide : 35 + 0 ≤ _)⟩)
        dsimp only [Pt.U, Pt.locs, Pt.cells, Pt.slots] at X112 l112 y112 z112 st112 hQ112
        subst y112 z112
        obtain ⟨rfl, N112q, K112, P112_0, P112_1, P112_2, P112_3, P112_4, P112_5, P112_6, P112_7⟩ := hQ112
        have fa113 := fa29.keep K112
        have fa121 := P28_7.keep K112 (ninS (Ne.symm P2_4) (ninS P2_10 nin0))
        have fa122 := P28_8.keep K112 (ninS (Ne.symm P2_5) (ninS P2_12 nin0))
        have fa123 := P28_9.keep K112 (ninS (Ne.symm P2_6) (ninS P2_13 nin0))
        have KK112 : Keep h0 T112.heap [] := KK28.trans K112 (allS (Or.inr sz_b1) (allS (Or.inr sz_os_2) all0))
        have ZZ112 : n0 ≤ T112.heap.size := Nat.le_trans ZZ28 K112.1
        have N112 : Fr n0 L112 := l112 ▸ Fr.app N28 N112q
        refine own_go (T' := T112) (f' := (mkF m 64 #[.val (.int xa), .val (.int xb), .val (.int xc), .val (.int xd), .val (.int xe), .val (.ref b1), .val (.int (xe &&& (3 : Int32))), .unset, .unset, .unset] [])) ?_ (fun _ k => st112.trans k)
        refine own_go (T' := T112) (f' := (mkF m 66 #[.val (.int xa), .val (.int xb), .val (.int xc), .val (.int xd), .val (.int xe), .val (.ref b1), .val (.int (xe &&& (3 : Int32))), .unset, .unset, .unset] [(.ref b1)])) ?_ (fun _ k => XS.aload X112.here hx rfl (hb hby at_64) rfl rfl k)
        obtain ⟨cq125, kq125, qa125, qb125, qc125⟩ := isOf hZ rfl fa113
        obtain ⟨_, _, ⟨T125, L125, k125, n125⟩, -, X125, ⟨Lc125, hQ125, l125, y125, z125⟩, st125⟩ := X112.virtualBack hx (y := (⟨"com/example/monitorgen/monitorgen/trace/Instant", "isEmpty", "()Z"⟩ : MethodName)) (z := (⟨"com/example/monitorgen/monitorgen/trace/Instant", "isEmpty", "()Z"⟩ : MethodName)) hown (mvT hZ (hw _ (List.mem_of_getElem? (i := 30) rfl))) (mvT hZ (hw _ (List.mem_of_getElem? (i := 31) rfl))) (notFace_of_selects (args := #[]) (mvT hZ (hw _ (List.mem_of_getElem? (i := 33) rfl)))) (mvT hZ (hw _ (List.mem_of_getElem? (i := 33) rfl))) (mvT hZ (hw _ (List.mem_of_getElem? (i := 32) rfl))) (by decide) (backOf (W := 0) (own_rm5 l Z a0 hw [] b1 (0 : Int64) (0 : Int64) T112.heap n0 ZZ112 P112_5 P112_6) hZ (hw _ (List.mem_of_getElem? (i := 34) rfl)) (hw _ (List.mem_of_getElem? (i := 2) rfl)) (by decide) (by decide)) qa125 qc125 (g := (mkF m 66 #[.val (.int xa), .val (.int xb), .val (.int xc), .val (.int xd), .val (.int xe), .val (.ref b1), .val (.int (xe &&& (3 : Int32))), .unset, .unset, .unset] [(.ref b1)])) rfl (by rw [hml]; rfl) (Steps.refl _) (argsL := []) (rest := []) (lenOf own_pd3 rfl) rfl (by show 2 * 0 + _ ≤ _; exact Nat.le_of_eq rfl) (hb hby at_66) (fun _ _ => ⟨rfl, rfl, (by decide : 5 + 0 ≤ _), (by decide : 35 + 0 ≤ _)⟩)
        dsimp only [Pt.U, Pt.locs, Pt.cells, Pt.slots] at X125 l125 y125 z125 st125 hQ125
        subst y125 z125
        obtain ⟨rfl, N125q, e125⟩ := hQ125
        have N125 : Fr n0 L125 := l125 ▸ Fr.app N112 N125q
        refine own_go (T' := T125) (f' := (mkF m 69 #[.val (.int xa), .val (.int xb), .val (.int xc), .val (.int xd), .val (.int xe), .val (.ref b1), .val (.int (xe &&& (3 : Int32))), .unset, .unset, .unset] [(.int (own_f5 (0 : Int64) (0 : Int64)))])) ?_ (fun _ k => st125.trans k)
        have hk69_126 : ¬ ((own_f5 (0 : Int64) (0 : Int64)) = (0 : Int32)) := (by decide)
        refine own_go (T' := T125) (f' := (mkF m 74 #[.val (.int xa), .val (.int xb), .val (.int xc), .val (.int xd), .val (.int xe), .val (.ref b1), .val (.int (xe &&& (3 : Int32))), .unset, .unset, .unset] [])) ?_ (fun _ k => XS.ifYes X125.here hx rfl (pc0 := 69) (pc' := 74) rfl (hb hby at_69) rfl ((if0 _ _).trans (feq hk69_126).2) (by decide) (by decide) k)
        refine own_go (T' := T125) (f' := (mkF m 76 #[.val (.int xa), .val (.int xb), .val (.int xc), .val (.int xd), .val (.int xe), .val (.ref b1), .val (.int (xe &&& (3 : Int32))), .unset, .unset, .unset] [(.int xe)])) ?_ (fun _ k => XS.iload X125.here hx rfl (hb hby at_74) rfl  k)
        refine own_go (T' := T125) (f' := (mkF m 77 #[.val (.int xa), .val (.int xb), .val (.int xc), .val (.int xd), .val (.int xe), .val (.ref b1), .val (.int (xe &&& (3 : Int32))), .unset, .unset, .unset] [(.int (2 : Int32)), (.int xe)])) ?_ (fun _ k => XS.iconst X125.here hx rfl (hb hby at_76) k)
        refine own_go (T' := T125) (f' := (mkF m 78 #[.val (.int xa), .val (.int xb), .val (.int xc), .val (.int xd), .val (.int xe), .val (.ref b1), .val (.int (xe &&& (3 : Int32))), .unset, .unset, .unset] [(.int ((xe.toUInt32 >>> ((2 : Int32) &&& 31).toUInt32).toInt32))])) ?_ (fun _ k => XS.iushr X125.here hx rfl (hb hby at_77) rfl k)
        refine own_go (T' := T125) (f' := (mkF m 79 #[.val (.int xa), .val (.int xb), .val (.int xc), .val (.int xd), .val (.int xe), .val (.ref b1), .val (.int (xe &&& (3 : Int32))), .unset, .unset, .unset] [(.int (3 : Int32)), (.int ((xe.toUInt32 >>> ((2 : Int32) &&& 31).toUInt32).toInt32))])) ?_ (fun _ k => XS.iconst X125.here hx rfl (hb hby at_78) k)
        refine own_go (T' := T125) (f' := (mkF m 80 #[.val (.int xa), .val (.int xb), .val (.int xc), .val (.int xd), .val (.int xe), .val (.ref b1), .val (.int (xe &&& (3 : Int32))), .unset, .unset, .unset] [(.int (((xe.toUInt32 >>> ((2 : Int32) &&& 31).toUInt32).toInt32) &&& (3 : Int32)))])) ?_ (fun _ k => XS.iand X125.here hx rfl (hb hby at_79) rfl k)
        refine own_go (T' := T125) (f' := (mkF m 82 #[.val (.int xa), .val (.int xb), .val (.int xc), .val (.int xd), .val (.int xe), .val (.ref b1), .val (.int (xe &&& (3 : Int32))), .val (.int (own_v0_80 xe)), .unset, .unset] [])) ?_ (fun _ k => XS.istore X125.here hx rfl (hb hby at_80) rfl (l' := #[.val (.int xa), .val (.int xb), .val (.int xc), .val (.int xd), .val (.int xe), .val (.ref b1), .val (.int (xe &&& (3 : Int32))), .val (.int (own_v0_80 xe)), .unset, .unset]) rfl k)
        refine own_go (T' := T125) (f' := (mkF m 84 #[.val (.int xa), .val (.int xb), .val (.int xc), .val (.int xd), .val (.int xe), .val (.ref b1), .val (.int (xe &&& (3 : Int32))), .val (.int (own_v0_80 xe)), .unset, .unset] [(.int (own_v0_80 xe))])) ?_ (fun _ k => XS.iload X125.here hx rfl (hb hby at_82) rfl  k)
        obtain ⟨_, ⟨T127, L127, rfl, X127, e127, N127⟩, mg127⟩ : own_Goes p.tables e below (fun uu => ∃ (T' : State) (L' : List Loc), uu = T'.setTop (mkF m 112 #[.val (.int xa), .val (.int xb), .val (.int xc), .val (.int xd), .val (.int xe), .val (.ref b1), .val (.int (xe &&& (3 : Int32))), .val (.int (own_v0_80 xe)), .unset, .unset] [(.int (own_v0_84_s0 xa xb xc xd xe))]) ∧ Stand p l e room_1 s m #[(.int xa), (.int xb), (.int xc), (.int xd), (.int xe)] below meth c T' L' 5 35 ∧ T'.heap = T112.heap ∧ Fr n0 L') T125 (mkF m 84 #[.val (.int xa), .val (.int xb), .val (.int xc), .val (.int xd), .val (.int xe), .val (.ref b1), .val (.int (xe &&& (3 : Int32))), .val (.int (own_v0_80 xe)), .unset, .unset] [(.int (own_v0_80 xe))]) := by
          by_cases hc84_128 : (own_v0_80 xe) = (0 : Int32)
          · refine own_go (T' := T125) (f' := (mkF m 87 #[.val (.int xa), .val (.int xb), .val (.int xc), .val (.int xd), .val (.int xe), .val (.ref b1), .val (.int (xe &&& (3 : Int32))), .val (.int (own_v0_80 xe)), .unset, .unset] [])) ?_ (fun _ k => XS.ifNo X125.here hx rfl (hb hby at_84) rfl ((if0 _ _).trans (teq hc84_128).2) k)
            refine own_go (T' := T125) (f' := (mkF m 88 #[.val (.int xa), .val (.int xb), .val (.int xc), .val (.int xd), .val (.int xe), .val (.ref b1), .val (.int (xe &&& (3 : Int32))), .val (.int (own_v0_80 xe)), .unset, .unset] [(.int xa)])) ?_ (fun _ k => XS.iloadN X125.here hx rfl (hb hby at_87) rfl  k)
            refine own_go (T' := T125) (f' := (mkF m 112 #[.val (.int xa), .val (.int xb), .val (.int xc), .val (.int xd), .val (.int xe), .val (.ref b1), .val (.int (xe &&& (3 : Int32))), .val (.int (own_v0_80 xe)), .unset, .unset] [(.int xa)])) ?_ (fun _ k => XS.goto X125.here hx rfl (pc0 := 88) (pc' := 112) rfl (hb hby at_88) (by decide) (by decide) k)
            have em129 : (own_v0_84_s0 xa xb xc xd xe) = xa := (if_pos hc84_128)
            exact ⟨_, ⟨T125, _, (by rw [em129]), X125, e125, N125⟩, fun _ k => k⟩
          · refine own_go (T' := T125) (f' := (mkF m 91 #[.val (.int xa), .val (.int xb), .val (.int xc), .val (.int xd), .val (.int xe), .val (.ref b1), .val (.int (xe &&& (3 : Int32))), .val (.int (own_v0_80 xe)), .unset, .unset] [])) ?_ (fun _ k => XS.ifYes X125.here hx rfl (pc0 := 84) (pc' := 91) rfl (hb hby at_84) rfl ((if0 _ _).trans (feq hc84_128).2) (by decide) (by decide) k)
            refine own_go (T' := T125) (f' := (mkF m 93 #[.val (.int xa), .val (.int xb), .val (.int xc), .val (.int xd), .val (.int xe), .val (.ref b1), .val (.int (xe &&& (3 : Int32))), .val (.int (own_v0_80 xe)), .unset, .unset] [(.int (own_v0_80 xe))])) ?_ (fun _ k => XS.iload X125.here hx rfl (hb hby at_91) rfl  k)
            refine own_go (T' := T125) (f' := (mkF m 94 #[.val (.int xa), .val (.int xb), .val (.int xc), .val (.int xd), .val (.int xe), .val (.ref b1), .val (.int (xe &&& (3 : Int32))), .val (.int (own_v0_80 xe)), .unset, .unset] [(.int (1 : Int32)), (.int (own_v0_80 xe))])) ?_ (fun _ k => XS.iconst X125.here hx rfl (hb hby at_93) k)
            by_cases hc94_130 : (own_v0_80 xe) = (1 : Int32)
            · refine own_go (T' := T125) (f' := (mkF m 97 #[.val (.int xa), .val (.int xb), .val (.int xc), .val (.int xd), .val (.int xe), .val (.ref b1), .val (.int (xe &&& (3 : Int32))), .val (.int (own_v0_80 xe)), .unset, .unset] [])) ?_ (fun _ k => XS.icmpNo X125.here hx rfl (hb hby at_94) rfl (teq hc94_130).2 k)
              refine own_go (T' := T125) (f' := (mkF m 98 #[.val (.int xa), .val (.int xb), .val (.int xc), .val (.int xd), .val (.int xe), .val (.ref b1), .val (.int (xe &&& (3 : Int32))), .val (.int (own_v0_80 xe)), .unset, .unset] [(.int xb)])) ?_ (fun _ k => XS.iloadN X125.here hx rfl (hb hby at_97) rfl  k)
              refine own_go (T' := T125) (f' := (mkF m 112 #[.val (.int xa), .val (.int xb), .val (.int xc), .val (.int xd), .val (.int xe), .val (.ref b1), .val (.int (xe &&& (3 : Int32))), .val (.int (own_v0_80 xe)), .unset, .unset] [(.int xb)])) ?_ (fun _ k => XS.goto X125.here hx rfl (pc0 := 98) (pc' := 112) rfl (hb hby at_98) (by decide) (by decide) k)
              have em131 : (own_v0_84_s0 xa xb xc xd xe) = xb := (Eq.trans (if_neg hc84_128) (if_pos hc94_130))
              exact ⟨_, ⟨T125, _, (by rw [em131]), X125, e125, N125⟩, fun _ k => k⟩
            · refine own_go (T' := T125) (f' := (mkF m 101 #[.val (.int xa), .val (.int xb), .val (.int xc), .val (.int xd), .val (.int xe), .val (.ref b1), .val (.int (xe &&& (3 : Int32))), .val (.int (own_v0_80 xe)), .unset, .unset] [])) ?_ (fun _ k => XS.icmpYes X125.here hx rfl (pc0 := 94) (pc' := 101) rfl (hb hby at_94) rfl (feq hc94_130).2 (by decide) (by decide) k)
              refine own_go (T' := T125) (f' := (mkF m 103 #[.val (.int xa), .val (.int xb), .val (.int xc), .val (.int xd), .val (.int xe), .val (.ref b1), .val (.int (xe &&& (3 : Int32))), .val (.int (own_v0_80 xe)), .unset, .unset] [(.int (own_v0_80 xe))])) ?_ (fun _ k => XS.iload X125.here hx rfl (hb hby at_101) rfl  k)
              refine own_go (T' := T125) (f' := (mkF m 104 #[.val (.int xa), .val (.int xb), .val (.int xc), .val (.int xd), .val (.int xe), .val (.ref b1), .val (.int (xe &&& (3 : Int32))), .val (.int (own_v0_80 xe)), .unset, .unset] [(.int (2 : Int32)), (.int (own_v0_80 xe))])) ?_ (fun _ k => XS.iconst X125.here hx rfl (hb hby at_103) k)
              by_cases hc104_132 : (own_v0_80 xe) = (2 : Int32)
              · refine own_go (T' := T125) (f' := (mkF m 107 #[.val (.int xa), .val (.int xb), .val (.int xc), .val (.int xd), .val (.int xe), .val (.ref b1), .val (.int (xe &&& (3 : Int32))), .val (.int (own_v0_80 xe)), .unset, .unset] [])) ?_ (fun _ k => XS.icmpNo X125.here hx rfl (hb hby at_104) rfl (teq hc104_132).2 k)
                refine own_go (T' := T125) (f' := (mkF m 108 #[.val (.int xa), .val (.int xb), .val (.int xc), .val (.int xd), .val (.int xe), .val (.ref b1), .val (.int (xe &&& (3 : Int32))), .val (.int (own_v0_80 xe)), .unset, .unset] [(.int xc)])) ?_ (fun _ k => XS.iloadN X125.here hx rfl (hb hby at_107) rfl  k)
                refine own_go (T' := T125) (f' := (mkF m 112 #[.val (.int xa), .val (.int xb), .val (.int xc), .val (.int xd), .val (.int xe), .val (.ref b1), .val (.int (xe &&& (3 : Int32))), .val (.int (own_v0_80 xe)), .unset, .unset] [(.int xc)])) ?_ (fun _ k => XS.goto X125.here hx rfl (pc0 := 108) (pc' := 112) rfl (hb hby at_108) (by decide) (by decide) k)
                have em133 : (own_v0_84_s0 xa xb xc xd xe) = xc := (Eq.trans (if_neg hc84_128) (Eq.trans (if_neg hc94_130) (if_pos hc104_132)))
                exact ⟨_, ⟨T125, _, (by rw [em133]), X125, e125, N125⟩, fun _ k => k⟩
              · refine own_go (T' := T125) (f' := (mkF m 111 #[.val (.int xa), .val (.int xb), .val (.int xc), .val (.int xd), .val (.int xe), .val (.ref b1), .val (.int (xe &&& (3 : Int32))), .val (.int (own_v0_80 xe)), .unset, .unset] [])) ?_ (fun _ k => XS.icmpYes X125.here hx rfl (pc0 := 104) (pc' := 111) rfl (hb hby at_104) rfl (feq hc104_132).2 (by decide) (by decide) k)
                refine own_go (T' := T125) (f' := (mkF m 112 #[.val (.int xa), .val (.int xb), .val (.int xc), .val (.int xd), .val (.int xe), .val (.ref b1), .val (.int (xe &&& (3 : Int32))), .val (.int (own_v0_80 xe)), .unset, .unset] [(.int xd)])) ?_ (fun _ k => XS.iloadN X125.here hx rfl (hb hby at_111) rfl  k)
                have em134 : (own_v0_84_s0 xa xb xc xd xe) = xd := (Eq.trans (if_neg hc84_128) (Eq.trans (if_neg hc94_130) (if_neg hc104_132)))
                exact ⟨_, ⟨T125, _, (by rw [em134]), X125, e125, N125⟩, fun _ k => k⟩
        refine own_go (T' := T127) (f' := (mkF m 112 #[.val (.int xa), .val (.int xb), .val (.int xc), .val (.int xd), .val (.int xe), .val (.ref b1), .val (.int (xe &&& (3 : Int32))), .val (.int (own_v0_80 xe)), .unset, .unset] [(.int (own_v0_84_s0 xa xb xc xd xe))])) ?_ (mg127)
        refine own_go (T' := T127) (f' := (mkF m 114 #[.val (.int xa), .val (.int xb), .val (.int xc), .val (.int xd), .val (.int xe), .val (.ref b1), .val (.int (xe &&& (3 : Int32))), .val (.int (own_v0_80 xe)), .val (.int (own_v0_84_s0 xa xb xc xd xe)), .unset] [])) ?_ (fun _ k => XS.istore X127.here hx rfl (hb hby at_112) rfl (l' := #[.val (.int xa), .val (.int xb), .val (.int xc), .val (.int xd), .val (.int xe), .val (.ref b1), .val (.int (xe &&& (3 : Int32))), .val (.int (own_v0_80 xe)), .val (.int (own_v0_84_s0 xa xb xc xd xe)), .unset]) rfl k)
        refine own_go (T' := T127) (f' := (mkF m 116 #[.val (.int xa), .val (.int xb), .val (.int xc), .val (.int xd), .val (.int xe), .val (.ref b1), .val (.int (xe &&& (3 : Int32))), .val (.int (own_v0_80 xe)), .val (.int (own_v0_84_s0 xa xb xc xd xe)), .unset] [(.int (own_v0_84_s0 xa xb xc xd xe))])) ?_ (fun _ k => XS.iload X127.here hx rfl (hb hby at_114) rfl  k)
        obtain ⟨_, _, ⟨T135, L135, k135, n135⟩, -, X135, ⟨Lc135, hQ135, l135, y135, z135⟩, st135⟩ := Jvm.LawKit.callS X127 hx (y := (⟨"com/example/monitorgen/monitorgen/trace/InstantClearPinLaw", "ev", "(I)I"⟩ : MethodName)) hown (mvT hZ (hw _ (List.mem_of_getElem? (i := 35) rfl))) (mvT hZ (hw _ (List.mem_of_getElem? (i := 36) rfl))) (mvT hZ (hw _ (List.mem_of_getElem? (i := 37) rfl))) (mvT hZ (hw _ (List.mem_of_getElem? (i := 38) rfl))) (by decide) (backOf (W := 0) (own_rm8 l Z a0 hw [] (own_v0_84_s0 xa xb xc xd xe) T112.heap n0 ZZ112) hZ (hw _ (List.mem_of_getElem? (i := 38) rfl)) (hw _ (List.mem_of_getElem? (i := 37) rfl)) (by decide) (by decide)) (g := (mkF m 116 #[.val (.int xa), .val (.int xb), .val (.int xc), .val (.int xd), .val (.int xe), .val (.ref b1), .val (.int (xe &&& (3 : Int32))), .val (.int (own_v0_80 xe)), .val (.int (own_v0_84_s0 xa xb xc xd xe)), .unset] [(.int (own_v0_84_s0 xa xb xc xd xe))])) rfl (by rw [hml]; rfl) (argsL := [(.int (own_v0_84_s0 xa xb xc xd xe))]) (rest := []) (lenOf own_pd1 rfl) rfl (by show 2 * 0 + _ ≤ _; exact Nat.le_of_eq rfl) (hb hby at_116) (fun _ _ => ⟨rfl, e127, (by decide : 5 + 0 ≤ _), (by decide : 35 + 0 ≤ _)⟩)
        dsimp only [Pt.U, Pt.locs, Pt.cells, Pt.slots] at X135 l135 y135 z135 st135 hQ135
        subst y135 z135
        obtain ⟨rfl, N135q, e135⟩ := hQ135
        have N135 : Fr n0 L135 := l135 ▸ Fr.app N127 N135q
        refine own_go (T' := T135) (f' := (mkF m 119 #[.val (.int xa), .val (.int xb), .val (.int xc), .val (.int xd), .val (.int xe), .val (.ref b1), .val (.int (xe &&& (3 : Int32))), .val (.int (own_v0_80 xe)), .val (.int (own_v0_84_s0 xa xb xc xd xe)), .unset] [(.int (own_f8 (own_v0_84_s0 xa xb xc xd xe)))])) ?_ (st135)
        refine own_go (T' := T135) (f' := (mkF m 121 #[.val (.int xa), .val (.int xb), .val (.int xc), .val (.int xd), .val (.int xe), .val (.ref b1), .val (.int (xe &&& (3 : Int32))), .val (.int (own_v0_80 xe)), .val (.int (own_v0_84_s0 xa xb xc xd xe)), .val (.int (own_f8 (own_v0_84_s0 xa xb xc xd xe)))] [])) ?_ (fun _ k => XS.istore X135.here hx rfl (hb hby at_119) rfl (l' := #[.val (.int xa), .val (.int xb), .val (.int xc), .val (.int xd), .val (.int xe), .val (.ref b1), .val (.int (xe &&& (3 : Int32))), .val (.int (own_v0_80 xe)), .val (.int (own_v0_84_s0 xa xb xc xd xe)), .val (.int (own_f8 (own_v0_84_s0 xa xb xc xd xe)))]) rfl k)
        refine own_go (T' := T135) (f' := (mkF m 123 #[.val (.int xa), .val (.int xb), .val (.int xc), .val (.int xd), .val (.int xe), .val (.ref b1), .val (.int (xe &&& (3 : Int32))), .val (.int (own_v0_80 xe)), .val (.int (own_v0_84_s0 xa xb xc xd xe)), .val (.int (own_f8 (own_v0_84_s0 xa xb xc xd xe)))] [(.ref b1)])) ?_ (fun _ k => XS.aload X135.here hx rfl (hb hby at_121) rfl rfl k)
        refine own_go (T' := T135) (f' := (mkF m 125 #[.val (.int xa), .val (.int xb), .val (.int xc), .val (.int xd), .val (.int xe), .val (.ref b1), .val (.int (xe &&& (3 : Int32))), .val (.int (own_v0_80 xe)), .val (.int (own_v0_84_s0 xa xb xc xd xe)), .val (.int (own_f8 (own_v0_84_s0 xa xb xc xd xe)))] [(.int (own_f8 (own_v0_84_s0 xa xb xc xd xe))), (.ref b1)])) ?_ (fun _ k => XS.iload X135.here hx rfl (hb hby at_123) rfl  k)
        obtain ⟨cq136, kq136, qa136, qb136, qc136⟩ := isOf hZ e135 fa113
        obtain ⟨_, _, ⟨T136, L136, k136, n136⟩, -, X136, ⟨Lc136, hQ136, l136, y136, z136⟩, st136⟩ := X135.virtualBack hx (y := (⟨"com/example/monitorgen/monitorgen/trace/Instant", "add", "(I)V"⟩ : MethodName)) (z := (⟨"com/example/monitorgen/monitorgen/trace/Instant", "add", "(I)V"⟩ : MethodName)) hown (mvT hZ (hw _ (List.mem_of_getElem? (i := 39) rfl))) (mvT hZ (hw _ (List.mem_of_getElem? (i := 40) rfl))) (notFace_of_selects (args := #[]) (mvT hZ (hw _ (List.mem_of_getElem? (i := 42) rfl)))) (mvT hZ (hw _ (List.mem_of_getElem? (i := 42) rfl))) (mvT hZ (hw _ (List.mem_of_getElem? (i := 41) rfl))) (by decide) (backOf (W := 0) (own_rm10 l Z a0 hw [] b1 (own_f8 (own_v0_84_s0 xa xb xc xd xe)) oe_2 oc_2 oo_2 os_2 (0 : Int32) (0 : Int64) (0 : Int64) LE__28 LC__28 LO__28 [(0 : Int32), (0 : Int32), (0 : Int32), (0 : Int32), (0 : Int32), (0 : Int32), (0 : Int32), (0 : Int32), (0 : Int32), (0 : Int32), (0 : Int32), (0 : Int32), (0 : Int32), (0 : Int32), (0 : Int32), (0 : Int32)] 0 T112.heap n0 ZZ112 fa113 P112_0 P112_1 P112_2 P112_3 P112_4 P112_5 P112_6 fa121 fa122 fa123 P112_7 g_b1 g_oe_2 g_oc_2 g_oo_2 g_os_2 P2_4 P2_5 P2_6 P2_7 P2_8 P2_9 P2_10 P2_11 P2_12 P2_13 (own_inv1 _) (by decide)) hZ (hw _ (List.mem_of_getElem? (i := 43) rfl)) (hw _ (List.mem_of_getElem? (i := 2) rfl)) (by decide) (by decide)) qa136 qc136 (g := (mkF m 125 #[.val (.int xa), .val (.int xb), .val (.int xc), .val (.int xd), .val (.int xe), .val (.ref b1), .val (.int (xe &&& (3 : Int32))), .val (.int (own_v0_80 xe)), .val (.int (own_v0_84_s0 xa xb xc xd xe)), .val (.int (own_f8 (own_v0_84_s0 xa xb xc xd xe)))] [(.int (own_f8 (own_v0_84_s0 xa xb xc xd xe))), (.ref b1)])) rfl (by rw [hml]; rfl) (Steps.refl _) (argsL := [(.int (own_f8 (own_v0_84_s0 xa xb xc xd xe)))]) (rest := []) (lenOf own_pd2 rfl) rfl (by show 2 * 0 + _ ≤ _; exact Nat.le_of_eq rfl) (hb hby at_125) (fun _ _ => ⟨rfl, e135, (by decide : 5 + 0 ≤ _), (by decide : 35 + 0 ≤ _)⟩)
        dsimp only [Pt.U, Pt.locs, Pt.cells, Pt.slots] at X136 l136 y136 z136 st136 hQ136
        subst y136 z136
        obtain ⟨nd__136, tt__136, ig__136, LE__136, LC__136, LO__136, LS__136, rfl, N136q, K136, P136_0, P136_1, P136_2, P136_3, P136_4, P136_5, P136_6, P136_7, P136_8, P136_9, P136_10, P136_11, P136_12⟩ := hQ136
        have fa137 := fa113.keep K136
        have KK136 : Keep h0 T136.heap [] := KK112.trans K136 (allS (Or.inr sz_b1) (allS (Or.inr sz_oe_2) (allS (Or.inr sz_oc_2) (allS (Or.inr sz_oo_2) (allS (Or.inr sz_os_2) all0)))))
        have ZZ136 : n0 ≤ T136.heap.size := Nat.le_trans ZZ112 K136.1
        have N136 : Fr n0 L136 := l136 ▸ Fr.app N135 N136q
        refine own_go (T' := T136) (f' := (mkF m 128 #[.val (.int xa), .val (.int xb), .val (.int xc), .val (.int xd), .val (.int xe), .val (.ref b1), .val (.int (xe &&& (3 : Int32))), .val (.int (own_v0_80 xe)), .val (.int (own_v0_84_s0 xa xb xc xd xe)), .val (.int (own_f8 (own_v0_84_s0 xa xb xc xd xe)))] [])) ?_ (fun _ k => st136.trans k)
        refine own_go (T' := T136) (f' := (mkF m 130 #[.val (.int xa), .val (.int xb), .val (.int xc), .val (.int xd), .val (.int xe), .val (.ref b1), .val (.int (xe &&& (3 : Int32))), .val (.int (own_v0_80 xe)), .val (.int (own_v0_84_s0 xa xb xc xd xe)), .val (.int (own_f8 (own_v0_84_s0 xa xb xc xd xe)))] [(.int (own_f8 (own_v0_84_s0 xa xb xc xd xe)))])) ?_ (fun _ k => XS.iload X136.here hx rfl (hb hby at_128) rfl  k)
        by_cases hc130_149 : (own_f8 (own_v0_84_s0 xa xb xc xd xe)) < (0 : Int32)
        · refine own_go (T' := T136) (f' := (mkF m 133 #[.val (.int xa), .val (.int xb), .val (.int xc), .val (.int xd), .val (.int xe), .val (.ref b1), .val (.int (xe &&& (3 : Int32))), .val (.int (own_v0_80 xe)), .val (.int (own_v0_84_s0 xa xb xc xd xe)), .val (.int (own_f8 (own_v0_84_s0 xa xb xc xd xe)))] [])) ?_ (fun _ k => XS.ifNo X136.here hx rfl (hb hby at_130) rfl ((if0 _ _).trans (tlt hc130_149).2.1) k)
          refine own_go (T' := T136) (f' := (mkF m 135 #[.val (.int xa), .val (.int xb), .val (.int xc), .val (.int xd), .val (.int xe), .val (.ref b1), .val (.int (xe &&& (3 : Int32))), .val (.int (own_v0_80 xe)), .val (.int (own_v0_84_s0 xa xb xc xd xe)), .val (.int (own_f8 (own_v0_84_s0 xa xb xc xd xe)))] [(.ref b1)])) ?_ (fun _ k => XS.aload X136.here hx rfl (hb hby at_133) rfl rfl k)
          obtain ⟨cq150, kq150, qa150, qb150, qc150⟩ := isOf hZ rfl fa137
          obtain ⟨_, _, ⟨T150, L150, k150, n150⟩, -, X150, ⟨Lc150, hQ150, l150, y150, z150⟩, st150⟩ := X136.virtualBack hx (y := (⟨"com/example/monitorgen/monitorgen/trace/Instant", "ignored", "()J"⟩ : MethodName)) (z := (⟨"com/example/monitorgen/monitorgen/trace/Instant", "ignored", "()J"⟩ : MethodName)) hown (mvT hZ (hw _ (List.mem_of_getElem? (i := 65) rfl))) (mvT hZ (hw _ (List.mem_of_getElem? (i := 66) rfl))) (notFace_of_selects (args := #[]) (mvT hZ (hw _ (List.mem_of_getElem? (i := 68) rfl)))) (mvT hZ (hw _ (List.mem_of_getElem? (i := 68) rfl))) (mvT hZ (hw _ (List.mem_of_getElem? (i := 67) rfl))) (by decide) (backOf (W := 0) (own_rm4 l Z a0 hw [] b1 ig__136 T136.heap n0 ZZ136 P136_6) hZ (hw _ (List.mem_of_getElem? (i := 69) rfl)) (hw _ (List.mem_of_getElem? (i := 2) rfl)) (by decide) (by decide)) qa150 qc150 (g := (mkF m 135 #[.val (.int xa), .val (.int xb), .val (.int xc), .val (.int xd), .val (.int xe), .val (.ref b1), .val (.int (xe &&& (3 : Int32))), .val (.int (own_v0_80 xe)), .val (.int (own_v0_84_s0 xa xb xc xd xe)), .val (.int (own_f8 (own_v0_84_s0 xa xb xc xd xe)))] [(.ref b1)])) rfl (by rw [hml]; rfl) (Steps.refl _) (argsL := []) (rest := []) (lenOf own_pd4 rfl) rfl (by show 2 * 0 + _ ≤ _; exact Nat.le_of_eq rfl) (hb hby at_135) (fun _ _ => ⟨rfl, rfl, (by decide : 5 + 0 ≤ _), (by decide : 35 + 0 ≤ _)⟩)
          dsimp only [Pt.U, Pt.locs, Pt.cells, Pt.slots] at X150 l150 y150 z150 st150 hQ150
          subst y150 z150
          obtain ⟨rfl, N150q, e150⟩ := hQ150
          have N150 : Fr n0 L150 := l150 ▸ Fr.app N136 N150q
          refine own_go (T' := T150) (f' := (mkF m 138 #[.val (.int xa), .val (.int xb), .val (.int xc), .val (.int xd), .val (.int xe), .val (.ref b1), .val (.int (xe &&& (3 : Int32))), .val (.int (own_v0_80 xe)), .val (.int (own_v0_84_s0 xa xb xc xd xe)), .val (.int (own_f8 (own_v0_84_s0 xa xb xc xd xe)))] [(.long (own_f4 ig__136))])) ?_ (fun _ k => st150.trans k)
          refine own_go (T' := T150) (f' := (mkF m 139 #[.val (.int xa), .val (.int xb), .val (.int xc), .val (.int xd), .val (.int xe), .val (.ref b1), .val (.int (xe &&& (3 : Int32))), .val (.int (own_v0_80 xe)), .val (.int (own_v0_84_s0 xa xb xc xd xe)), .val (.int (own_f8 (own_v0_84_s0 xa xb xc xd xe)))] [(.long (1 : Int64)), (.long (own_f4 ig__136))])) ?_ (fun _ k => XS.lconst X150.here hx rfl (hb hby at_138) k)
          refine own_go (T' := T150) (f' := (mkF m 140 #[.val (.int xa), .val (.int xb), .val (.int xc), .val (.int xd), .val (.int xe), .val (.ref b1), .val (.int (xe &&& (3 : Int32))), .val (.int (own_v0_80 xe)), .val (.int (own_v0_84_s0 xa xb xc xd xe)), .val (.int (own_f8 (own_v0_84_s0 xa xb xc xd xe)))] [(.int (lcmpW (own_f4 ig__136) (1 : Int64)))])) ?_ (fun _ k => XS.lcmp X150.here hx rfl (hb hby at_139) rfl k)
          have hk140_151 : (lcmpW (own_f4 ig__136) (1 : Int64)) = (0 : Int32) := (own_t_ign P136_12 hc130_149)
          refine own_go (T' := T150) (f' := (mkF m 143 #[.val (.int xa), .val (.int xb), .val (.int xc), .val (.int xd), .val (.int xe), .val (.ref b1), .val (.int (xe &&& (3 : Int32))), .val (.int (own_v0_80 xe)), .val (.int (own_v0_84_s0 xa xb xc xd xe)), .val (.int (own_f8 (own_v0_84_s0 xa xb xc xd xe)))] [])) ?_ (fun _ k => XS.ifNo X150.here hx rfl (hb hby at_140) rfl ((if0 _ _).trans (teq hk140_151).2) k)
          refine own_go (T' := T150) (f' := (mkF m 145 #[.val (.int xa), .val (.int xb), .val (.int xc), .val (.int xd), .val (.int xe), .val (.ref b1), .val (.int (xe &&& (3 : Int32))), .val (.int (own_v0_80 xe)), .val (.int (own_v0_84_s0 xa xb xc xd xe)), .val (.int (own_f8 (own_v0_84_s0 xa xb xc xd xe)))] [(.ref b1)])) ?_ (fun _ k => XS.aload X150.here hx rfl (hb hby at_143) rfl rfl k)
          obtain ⟨cq152, kq152, qa152, qb152, qc152⟩ := isOf hZ e150 fa137
          obtain ⟨_, _, ⟨T152, L152, k152, n152⟩, -, X152, ⟨Lc152, hQ152, l152, y152, z152⟩, st152⟩ := X150.virtualBack hx (y := (⟨"com/example/monitorgen/monitorgen/trace/Instant", "events", "()J"⟩ : MethodName)) (z := (⟨"com/example/monitorgen/monitorgen/trace/Instant", "events", "()J"⟩ : MethodName)) hown (mvT hZ (hw _ (List.mem_of_getElem? (i := 60) rfl))) (mvT hZ (hw _ (List.mem_of_getElem? (i := 61) rfl))) (notFace_of_selects (args := #[]) (mvT hZ (hw _ (List.mem_of_getElem? (i := 63) rfl)))) (mvT hZ (hw _ (List.mem_of_getElem? (i := 63) rfl))) (mvT hZ (hw _ (List.mem_of_getElem? (i := 62) rfl))) (by decide) (backOf (W := 0) (own_rm3 l Z a0 hw [] b1 tt__136 T136.heap n0 ZZ136 P136_5) hZ (hw _ (List.mem_of_getElem? (i := 64) rfl)) (hw _ (List.mem_of_getElem? (i := 2) rfl)) (by decide) (by decide)) qa152 qc152 (g := (mkF m 145 #[.val (.int xa), .val (.int xb), .val (.int xc), .val (.int xd), .val (.int xe), .val (.ref b1), .val (.int (xe &&& (3 : Int32))), .val (.int (own_v0_80 xe)), .val (.int (own_v0_84_s0 xa xb xc xd xe)), .val (.int (own_f8 (own_v0_84_s0 xa xb xc xd xe)))] [(.ref b1)])) rfl (by rw [hml]; rfl) (Steps.refl _) (argsL := []) (rest := []) (lenOf own_pd4 rfl) rfl (by show 2 * 0 + _ ≤ _; exact Nat.le_of_eq rfl) (hb hby at_145) (fun _ _ => ⟨rfl, e150, (by decide : 5 + 0 ≤ _), (by decide : 35 + 0 ≤ _)⟩)
          dsimp only [Pt.U, Pt.locs, Pt.cells, Pt.slots] at X152 l152 y152 z152 st152 hQ152
          subst y152 z152
          obtain ⟨rfl, N152q, e152⟩ := hQ152
          have N152 : Fr n0 L152 := l152 ▸ Fr.app N150 N152q
          refine own_go (T' := T152) (f' := (mkF m 148 #[.val (.int xa), .val (.int xb), .val (.int xc), .val (.int xd), .val (.int xe), .val (.ref b1), .val (.int (xe &&& (3 : Int32))), .val (.int (own_v0_80 xe)), .val (.int (own_v0_84_s0 xa xb xc xd xe)), .val (.int (own_f8 (own_v0_84_s0 xa xb xc xd xe)))] [(.long (own_f3 tt__136))])) ?_ (fun _ k => st152.trans k)
          refine own_go (T' := T152) (f' := (mkF m 149 #[.val (.int xa), .val (.int xb), .val (.int xc), .val (.int xd), .val (.int xe), .val (.ref b1), .val (.int (xe &&& (3 : Int32))), .val (.int (own_v0_80 xe)), .val (.int (own_v0_84_s0 xa xb xc xd xe)), .val (.int (own_f8 (own_v0_84_s0 xa xb xc xd xe)))] [(.long (0 : Int64)), (.long (own_f3 tt__136))])) ?_ (fun _ k => XS.lconst X152.here hx rfl (hb hby at_148) k)
          refine own_go (T' := T152) (f' := (mkF m 150 #[.val (.int xa), .val (.int xb), .val (.int xc), .val (.int xd), .val (.int xe), .val (.ref b1), .val (.int (xe &&& (3 : Int32))), .val (.int (own_v0_80 xe)), .val (.int (own_v0_84_s0 xa xb xc xd xe)), .val (.int (own_f8 (own_v0_84_s0 xa xb xc xd xe)))] [(.int (lcmpW (own_f3 tt__136) (0 : Int64)))])) ?_ (fun _ k => XS.lcmp X152.here hx rfl (hb hby at_149) rfl k)
          have hk150_153 : (lcmpW (own_f3 tt__136) (0 : Int64)) = (0 : Int32) := (own_t_tot0 P136_12 hc130_149)
          refine own_go (T' := T152) (f' := (mkF m 153 #[.val (.int xa), .val (.int xb), .val (.int xc), .val (.int xd), .val (.int xe), .val (.ref b1), .val (.int (xe &&& (3 : Int32))), .val (.int (own_v0_80 xe)), .val (.int (own_v0_84_s0 xa xb xc xd xe)), .val (.int (own_f8 (own_v0_84_s0 xa xb xc xd xe)))] [])) ?_ (fun _ k => XS.ifNo X152.here hx rfl (hb hby at_150) rfl ((if0 _ _).trans (teq hk150_153).2) k)
          refine own_go (T' := T152) (f' := (mkF m 155 #[.val (.int xa), .val (.int xb), .val (.int xc), .val (.int xd), .val (.int xe), .val (.ref b1), .val (.int (xe &&& (3 : Int32))), .val (.int (own_v0_80 xe)), .val (.int (own_v0_84_s0 xa xb xc xd xe)), .val (.int (own_f8 (own_v0_84_s0 xa xb xc xd xe)))] [(.ref b1)])) ?_ (fun _ k => XS.aload X152.here hx rfl (hb hby at_153) rfl rfl k)
          obtain ⟨cq154, kq154, qa154, qb154, qc154⟩ := isOf hZ e152 fa137
          obtain ⟨_, _, ⟨T154, L154, k154, n154⟩, -, X154, ⟨Lc154, hQ154, l154, y154, z154⟩, st154⟩ := X152.virtualBack hx (y := (⟨"com/example/monitorgen/monitorgen/trace/Instant", "distinct", "()I"⟩ : MethodName)) (z := (⟨"com/example/monitorgen/monitorgen/trace/Instant", "distinct", "()I"⟩ : MethodName)) hown (mvT hZ (hw _ (List.mem_of_getElem? (i := 45) rfl))) (mvT hZ (hw _ (List.mem_of_getElem? (i := 46) rfl))) (notFace_of_selects (args := #[]) (mvT hZ (hw _ (List.mem_of_getElem? (i := 48) rfl)))) (mvT hZ (hw _ (List.mem_of_getElem? (i := 48) rfl))) (mvT hZ (hw _ (List.mem_of_getElem? (i := 47) rfl))) (by decide) (backOf (W := 0) (own_rm2 l Z a0 hw [] b1 nd__136 T136.heap n0 ZZ136 P136_4) hZ (hw _ (List.mem_of_getElem? (i := 49) rfl)) (hw _ (List.mem_of_getElem? (i := 2) rfl)) (by decide) (by decide)) qa154 qc154 (g := (mkF m 155 #[.val (.int xa), .val (.int xb), .val (.int xc), .val (.int xd), .val (.int xe), .val (.ref b1), .val (.int (xe &&& (3 : Int32))), .val (.int (own_v0_80 xe)), .val (.int (own_v0_84_s0 xa xb xc xd xe)), .val (.int (own_f8 (own_v0_84_s0 xa xb xc xd xe)))] [(.ref b1)])) rfl (by rw [hml]; rfl) (Steps.refl _) (argsL := []) (rest := []) (lenOf own_pd5 rfl) rfl (by show 2 * 0 + _ ≤ _; exact Nat.le_of_eq rfl) (hb hby at_155) (fun _ _ => ⟨rfl, e152, (by decide : 5 + 0 ≤ _), (by decide : 35 + 0 ≤ _)⟩)
          dsimp only [Pt.U, Pt.locs, Pt.cells, Pt.slots] at X154 l154 y154 z154 st154 hQ154
          subst y154 z154
          obtain ⟨rfl, N154q, e154⟩ := hQ154
          have N154 : Fr n0 L154 := l154 ▸ Fr.app N152 N154q
          refine own_go (T' := T154) (f' := (mkF m 158 #[.val (.int xa), .val (.int xb), .val (.int xc), .val (.int xd), .val (.int xe), .val (.ref b1), .val (.int (xe &&& (3 : Int32))), .val (.int (own_v0_80 xe)), .val (.int (own_v0_84_s0 xa xb xc xd xe)), .val (.int (own_f8 (own_v0_84_s0 xa xb xc xd xe)))] [(.int (own_f2 nd__136))])) ?_ (fun _ k => st154.trans k)
          have hk158_155 : (own_f2 nd__136) = (0 : Int32) := (own_t_nd0 P136_12 hc130_149)
          refine own_go (T' := T154) (f' := (mkF m 161 #[.val (.int xa), .val (.int xb), .val (.int xc), .val (.int xd), .val (.int xe), .val (.ref b1), .val (.int (xe &&& (3 : Int32))), .val (.int (own_v0_80 xe)), .val (.int (own_v0_84_s0 xa xb xc xd xe)), .val (.int (own_f8 (own_v0_84_s0 xa xb xc xd xe)))] [])) ?_ (fun _ k => XS.ifNo X154.here hx rfl (hb hby at_158) rfl ((if0 _ _).trans (teq hk158_155).2) k)
          refine own_go (T' := T154) (f' := (mkF m 162 #[.val (.int xa), .val (.int xb), .val (.int xc), .val (.int xd), .val (.int xe), .val (.ref b1), .val (.int (xe &&& (3 : Int32))), .val (.int (own_v0_80 xe)), .val (.int (own_v0_84_s0 xa xb xc xd xe)), .val (.int (own_f8 (own_v0_84_s0 xa xb xc xd xe)))] [(.int (1 : Int32))])) ?_ (fun _ k => XS.iconst X154.here hx rfl (hb hby at_161) k)
          refine own_go (T' := T154) (f' := (mkF m 166 #[.val (.int xa), .val (.int xb), .val (.int xc), .val (.int xd), .val (.int xe), .val (.ref b1), .val (.int (xe &&& (3 : Int32))), .val (.int (own_v0_80 xe)), .val (.int (own_v0_84_s0 xa xb xc xd xe)), .val (.int (own_f8 (own_v0_84_s0 xa xb xc xd xe)))] [(.int (1 : Int32))])) ?_ (fun _ k => XS.goto X154.here hx rfl (pc0 := 162) (pc' := 166) rfl (hb hby at_162) (by decide) (by decide) k)
          obtain ⟨fs156, hr156, hrun156, hended156, hW156, hsame156⟩ := X154.leave (v := some (.int (1 : Int32))) (fun h => by rw [Bd.returns] at h; cases h)
          refine ⟨_, ⟨_, hrun156, hended156, _, _, rfl, ?_, ⟨_, rfl⟩, hW156, hsame156.mono (by decide) (by decide)⟩, fun _ k => (own_retZ X154 hx Bd.returns (by decide) (hb hby at_166) hr156).trans k⟩
          show own_Q0 Z xa xb xc xd xe h0 n0 _ T154.heap _
          rw [e154]
          exact ⟨rfl, N154⟩
        · refine own_go (T' := T136) (f' := (mkF m 167 #[.val (.int xa), .val (.int xb), .val (.int xc), .val (.int xd), .val (.int xe), .val (.ref b1), .val (.int (xe &&& (3 : Int32))), .val (.int (own_v0_80 xe)), .val (.int (own_v0_84_s0 xa xb xc xd xe)), .val (.int (own_f8 (own_v0_84_s0 xa xb xc xd xe)))] [])) ?_ (fun _ k => XS.ifYes X136.here hx rfl (pc0 := 130) (pc' := 167) rfl (hb hby at_130) rfl ((if0 _ _).trans (flt hc130_149).2.1) (by decide) (by decide) k)
          refine own_go (T' := T136) (f' := (mkF m 169 #[.val (.int xa), .val (.int xb), .val (.int xc), .val (.int xd), .val (.int xe), .val (.ref b1), .val (.int (xe &&& (3 : Int32))), .val (.int (own_v0_80 xe)), .val (.int (own_v0_84_s0 xa xb xc xd xe)), .val (.int (own_f8 (own_v0_84_s0 xa xb xc xd xe)))] [(.ref b1)])) ?_ (fun _ k => XS.aload X136.here hx rfl (hb hby at_167) rfl rfl k)
          obtain ⟨cq157, kq157, qa157, qb157, qc157⟩ := isOf hZ rfl fa137
          obtain ⟨_, _, ⟨T157, L157, k157, n157⟩, -, X157, ⟨Lc157, hQ157, l157, y157, z157⟩, st157⟩ := X136.virtualBack hx (y := (⟨"com/example/monitorgen/monitorgen/trace/Instant", "distinct", "()I"⟩ : MethodName)) (z := (⟨"com/example/monitorgen/monitorgen/trace/Instant", "distinct", "()I"⟩ : MethodName)) hown (mvT hZ (hw _ (List.mem_of_getElem? (i := 45) rfl))) (mvT hZ (hw _ (List.mem_of_getElem? (i := 46) rfl))) (notFace_of_selects (args := #[]) (mvT hZ (hw _ (List.mem_of_getElem? (i := 48) rfl)))) (mvT hZ (hw _ (List.mem_of_getElem? (i := 48) rfl))) (mvT hZ (hw _ (List.mem_of_getElem? (i := 47) rfl))) (by decide) (backOf (W := 0) (own_rm2 l Z a0 hw [] b1 nd__136 T136.heap n0 ZZ136 P136_4) hZ (hw _ (List.mem_of_getElem? (i := 49) rfl)) (hw _ (List.mem_of_getElem? (i := 2) rfl)) (by decide) (by decide)) qa157 qc157 (g := (mkF m 169 #[.val (.int xa), .val (.int xb), .val (.int xc), .val (.int xd), .val (.int xe), .val (.ref b1), .val (.int (xe &&& (3 : Int32))), .val (.int (own_v0_80 xe)), .val (.int (own_v0_84_s0 xa xb xc xd xe)), .val (.int (own_f8 (own_v0_84_s0 xa xb xc xd xe)))] [(.ref b1)])) rfl (by rw [hml]; rfl) (Steps.refl _) (argsL := []) (rest := []) (lenOf own_pd5 rfl) rfl (by show 2 * 0 + _ ≤ _; exact Nat.le_of_eq rfl) (hb hby at_169) (fun _ _ => ⟨rfl, rfl, (by decide : 5 + 0 ≤ _), (by decide : 35 + 0 ≤ _)⟩)
          dsimp only [Pt.U, Pt.locs, Pt.cells, Pt.slots] at X157 l157 y157 z157 st157 hQ157
          subst y157 z157
          obtain ⟨rfl, N157q, e157⟩ := hQ157
          have N157 : Fr n0 L157 := l157 ▸ Fr.app N136 N157q
          refine own_go (T' := T157) (f' := (mkF m 172 #[.val (.int xa), .val (.int xb), .val (.int xc), .val (.int xd), .val (.int xe), .val (.ref b1), .val (.int (xe &&& (3 : Int32))), .val (.int (own_v0_80 xe)), .val (.int (own_v0_84_s0 xa xb xc xd xe)), .val (.int (own_f8 (own_v0_84_s0 xa xb xc xd xe)))] [(.int (own_f2 nd__136))])) ?_ (fun _ k => st157.trans k)
          refine own_go (T' := T157) (f' := (mkF m 173 #[.val (.int xa), .val (.int xb), .val (.int xc), .val (.int xd), .val (.int xe), .val (.ref b1), .val (.int (xe &&& (3 : Int32))), .val (.int (own_v0_80 xe)), .val (.int (own_v0_84_s0 xa xb xc xd xe)), .val (.int (own_f8 (own_v0_84_s0 xa xb xc xd xe)))] [(.int (1 : Int32)), (.int (own_f2 nd__136))])) ?_ (fun _ k => XS.iconst X157.here hx rfl (hb hby at_172) k)
          have hk173_158 : (own_f2 nd__136) = (1 : Int32) := (own_t_nd1 P136_12 hc130_149)
          refine own_go (T' := T157) (f' := (mkF m 176 #[.val (.int xa), .val (.int xb), .val (.int xc), .val (.int xd), .val (.int xe), .val (.ref b1), .val (.int (xe &&& (3 : Int32))), .val (.int (own_v0_80 xe)), .val (.int (own_v0_84_s0 xa xb xc xd xe)), .val (.int (own_f8 (own_v0_84_s0 xa xb xc xd xe)))] [])) ?_ (fun _ k => XS.icmpNo X157.here hx rfl (hb hby at_173) rfl (teq hk173_158).2 k)
          refine own_go (T' := T157) (f' := (mkF m 178 #[.val (.int xa), .val (.int xb), .val (.int xc), .val (.int xd), .val (.int xe), .val (.ref b1), .val (.int (xe &&& (3 : Int32))), .val (.int (own_v0_80 xe)), .val (.int (own_v0_84_s0 xa xb xc xd xe)), .val (.int (own_f8 (own_v0_84_s0 xa xb xc xd xe)))] [(.ref b1)])) ?_ (fun _ k => XS.aload X157.here hx rfl (hb hby at_176) rfl rfl k)
          refine own_go (T' := T157) (f' := (mkF m 179 #[.val (.int xa), .val (.int xb), .val (.int xc), .val (.int xd), .val (.int xe), .val (.ref b1), .val (.int (xe &&& (3 : Int32))), .val (.int (own_v0_80 xe)), .val (.int (own_v0_84_s0 xa xb xc xd xe)), .val (.int (own_f8 (own_v0_84_s0 xa xb xc xd xe)))] [(.int (0 : Int32)), (.ref b1)])) ?_ (fun _ k => XS.iconst X157.here hx rfl (hb hby at_178) k)
          obtain ⟨cq159, kq159, qa159, qb159, qc159⟩ := isOf hZ e157 fa137
          obtain ⟨_, _, ⟨T159, L159, k159, n159⟩, -, X159, ⟨Lc159, hQ159, l159, y159, z159⟩, st159⟩ := X157.virtualBack hx (y := (⟨"com/example/monitorgen/monitorgen/trace/Instant", "event", "(I)I"⟩ : MethodName)) (z := (⟨"com/example/monitorgen/monitorgen/trace/Instant", "event", "(I)I"⟩ : MethodName)) hown (mvT hZ (hw _ (List.mem_of_getElem? (i := 50) rfl))) (mvT hZ (hw _ (List.mem_of_getElem? (i := 51) rfl))) (notFace_of_selects (args := #[]) (mvT hZ (hw _ (List.mem_of_getElem? (i := 53) rfl)))) (mvT hZ (hw _ (List.mem_of_getElem? (i := 53) rfl))) (mvT hZ (hw _ (List.mem_of_getElem? (i := 52) rfl))) (by decide) (backOf (W := 0) (own_rm6 l Z a0 hw [] b1 oe_2 LE__136 T136.heap n0 ZZ136 P136_0 P136_7) hZ (hw _ (List.mem_of_getElem? (i := 54) rfl)) (hw _ (List.mem_of_getElem? (i := 2) rfl)) (by decide) (by decide)) qa159 qc159 (g := (mkF m 179 #[.val (.int xa), .val (.int xb), .val (.int xc), .val (.int xd), .val (.int xe), .val (.ref b1), .val (.int (xe &&& (3 : Int32))), .val (.int (own_v0_80 xe)), .val (.int (own_v0_84_s0 xa xb xc xd xe)), .val (.int (own_f8 (own_v0_84_s0 xa xb xc xd xe)))] [(.int (0 : Int32)), (.ref b1)])) rfl (by rw [hml]; rfl) (Steps.refl _) (argsL := [(.int (0 : Int32))]) (rest := []) (lenOf own_pd1 rfl) rfl (by show 2 * 0 + _ ≤ _; exact Nat.le_of_eq rfl) (hb hby at_179) (fun _ _ => ⟨rfl, e157, (by decide : 5 + 0 ≤ _), (by decide : 35 + 0 ≤ _)⟩)
          dsimp only [Pt.U, Pt.locs, Pt.cells, Pt.slots] at X159 l159 y159 z159 st159 hQ159
          subst y159 z159
          obtain ⟨rfl, N159q, e159⟩ := hQ159
          have N159 : Fr n0 L159 := l159 ▸ Fr.app N157 N159q
          refine own_go (T' := T159) (f' := (mkF m 182 #[.val (.int xa), .val (.int xb), .val (.int xc), .val (.int xd), .val (.int xe), .val (.ref b1), .val (.int (xe &&& (3 : Int32))), .val (.int (own_v0_80 xe)), .val (.int (own_v0_84_s0 xa xb xc xd xe)), .val (.int (own_f8 (own_v0_84_s0 xa xb xc xd xe)))] [(.int (own_f6 LE__136))])) ?_ (fun _ k => st159.trans k)
          refine own_go (T' := T159) (f' := (mkF m 184 #[.val (.int xa), .val (.int xb), .val (.int xc), .val (.int xd), .val (.int xe), .val (.ref b1), .val (.int (xe &&& (3 : Int32))), .val (.int (own_v0_80 xe)), .val (.int (own_v0_84_s0 xa xb xc xd xe)), .val (.int (own_f8 (own_v0_84_s0 xa xb xc xd xe)))] [(.int (own_f8 (own_v0_84_s0 xa xb xc xd xe))), (.int (own_f6 LE__136))])) ?_ (fun _ k => XS.iload X159.here hx rfl (hb hby at_182) rfl  k)
          have hk184_160 : (own_f6 LE__136) = (own_f8 (own_v0_84_s0 xa xb xc xd xe)) := (own_t_ev P136_12 hc130_149)
          refine own_go (T' := T159) (f' := (mkF m 187 #[.val (.int xa), .val (.int xb), .val (.int xc), .val (.int xd), .val (.int xe), .val (.ref b1), .val (.int (xe &&& (3 : Int32))), .val (.int (own_v0_80 xe)), .val (.int (own_v0_84_s0 xa xb xc xd xe)), .val (.int (own_f8 (own_v0_84_s0 xa xb xc xd xe)))] [])) ?_ (fun _ k => XS.icmpNo X159.here hx rfl (hb hby at_184) rfl (teq hk184_160).2 k)
          refine own_go (T' := T159) (f' := (mkF m 189 #[.val (.int xa), .val (.int xb), .val (.int xc), .val (.int xd), .val (.int xe), .val (.ref b1), .val (.int (xe &&& (3 : Int32))), .val (.int (own_v0_80 xe)), .val (.int (own_v0_84_s0 xa xb xc xd xe)), .val (.int (own_f8 (own_v0_84_s0 xa xb xc xd xe)))] [(.ref b1)])) ?_ (fun _ k => XS.aload X159.here hx rfl (hb hby at_187) rfl rfl k)
          refine own_go (T' := T159) (f' := (mkF m 190 #[.val (.int xa), .val (.int xb), .val (.int xc), .val (.int xd), .val (.int xe), .val (.ref b1), .val (.int (xe &&& (3 : Int32))), .val (.int (own_v0_80 xe)), .val (.int (own_v0_84_s0 xa xb xc xd xe)), .val (.int (own_f8 (own_v0_84_s0 xa xb xc xd xe)))] [(.int (0 : Int32)), (.ref b1)])) ?_ (fun _ k => XS.iconst X159.here hx rfl (hb hby at_189) k)
          obtain ⟨cq161, kq161, qa161, qb161, qc161⟩ := isOf hZ e159 fa137
          obtain ⟨_, _, ⟨T161, L161, k161, n161⟩, -, X161, ⟨Lc161, hQ161, l161, y161, z161⟩, st161⟩ := X159.virtualBack hx (y := (⟨"com/example/monitorgen/monitorgen/trace/Instant", "count", "(I)J"⟩ : MethodName)) (z := (⟨"com/example/monitorgen/monitorgen/trace/Instant", "count", "(I)J"⟩ : MethodName)) hown (mvT hZ (hw _ (List.mem_of_getElem? (i := 55) rfl))) (mvT hZ (hw _ (List.mem_of_getElem? (i := 56) rfl))) (notFace_of_selects (args := #[]) (mvT hZ (hw _ (List.mem_of_getElem? (i := 58) rfl)))) (mvT hZ (hw _ (List.mem_of_getElem? (i := 58) rfl))) (mvT hZ (hw _ (List.mem_of_getElem? (i := 57) rfl))) (by decide) (backOf (W := 0) (own_rm7 l Z a0 hw [] b1 oc_2 LC__136 T136.heap n0 ZZ136 P136_1 P136_8) hZ (hw _ (List.mem_of_getElem? (i := 59) rfl)) (hw _ (List.mem_of_getElem? (i := 2) rfl)) (by decide) (by decide)) qa161 qc161 (g := (mkF m 190 #[.val (.int xa), .val (.int xb), .val (.int xc), .val (.int xd), .val (.int xe), .val (.ref b1), .val (.int (xe &&& (3 : Int32))), .val (.int (own_v0_80 xe)), .val (.int (own_v0_84_s0 xa xb xc xd xe)), .val (.int (own_f8 (own_v0_84_s0 xa xb xc xd xe)))] [(.int (0 : Int32)), (.ref b1)])) rfl (by rw [hml]; rfl) (Steps.refl _) (argsL := [(.int (0 : Int32))]) (rest := []) (lenOf own_pd6 rfl) rfl (by show 2 * 0 + _ ≤ _; exact Nat.le_of_eq rfl) (hb hby at_190) (fun _ _ => ⟨rfl, e159, (by decide : 5 + 0 ≤ _), (by decide : 35 + 0 ≤ _)⟩)
          dsimp only [Pt.U, Pt.locs, Pt.cells, Pt.slots] at X161 l161 y161 z161 st161 hQ161
          subst y161 z161
          obtain ⟨rfl, N161q, e161⟩ := hQ161
          have N161 : Fr n0 L161 := l161 ▸ Fr.app N159 N161q
          refine own_go (T' := T161) (f' := (mkF m 193 #[.val (.int xa), .val (.int xb), .val (.int xc), .val (.int xd), .val (.int xe), .val (.ref b1), .val (.int (xe &&& (3 : Int32))), .val (.int (own_v0_80 xe)), .val (.int (own_v0_84_s0 xa xb xc xd xe)), .val (.int (own_f8 (own_v0_84_s0 xa xb xc xd xe)))] [(.long (own_f7 LC__136))])) ?_ (fun _ k => st161.trans k)
          refine own_go (T' := T161) (f' := (mkF m 194 #[.val (.int xa), .val (.int xb), .val (.int xc), .val (.int xd), .val (.int xe), .val (.ref b1), .val (.int (xe &&& (3 : Int32))), .val (.int (own_v0_80 xe)), .val (.int (own_v0_84_s0 xa xb xc xd xe)), .val (.int (own_f8 (own_v0_84_s0 xa xb xc xd xe)))] [(.long (1 : Int64)), (.long (own_f7 LC__136))])) ?_ (fun _ k => XS.lconst X161.here hx rfl (hb hby at_193) k)
          refine own_go (T' := T161) (f' := (mkF m 195 #[.val (.int xa), .val (.int xb), .val (.int xc), .val (.int xd), .val (.int xe), .val (.ref b1), .val (.int (xe &&& (3 : Int32))), .val (.int (own_v0_80 xe)), .val (.int (own_v0_84_s0 xa xb xc xd xe)), .val (.int (own_f8 (own_v0_84_s0 xa xb xc xd xe)))] [(.int (lcmpW (own_f7 LC__136) (1 : Int64)))])) ?_ (fun _ k => XS.lcmp X161.here hx rfl (hb hby at_194) rfl k)
          have hk195_162 : (lcmpW (own_f7 LC__136) (1 : Int64)) = (0 : Int32) := (own_t_cnt P136_12 hc130_149)
          refine own_go (T' := T161) (f' := (mkF m 198 #[.val (.int xa), .val (.int xb), .val (.int xc), .val (.int xd), .val (.int xe), .val (.ref b1), .val (.int (xe &&& (3 : Int32))), .val (.int (own_v0_80 xe)), .val (.int (own_v0_84_s0 xa xb xc xd xe)), .val (.int (own_f8 (own_v0_84_s0 xa xb xc xd xe)))] [])) ?_ (fun _ k => XS.ifNo X161.here hx rfl (hb hby at_195) rfl ((if0 _ _).trans (teq hk195_162).2) k)
          refine own_go (T' := T161) (f' := (mkF m 200 #[.val (.int xa), .val (.int xb), .val (.int xc), .val (.int xd), .val (.int xe), .val (.ref b1), .val (.int (xe &&& (3 : Int32))), .val (.int (own_v0_80 xe)), .val (.int (own_v0_84_s0 xa xb xc xd xe)), .val (.int (own_f8 (own_v0_84_s0 xa xb xc xd xe)))] [(.ref b1)])) ?_ (fun _ k => XS.aload X161.here hx rfl (hb hby at_198) rfl rfl k)
          obtain ⟨cq163, kq163, qa163, qb163, qc163⟩ := isOf hZ e161 fa137
          obtain ⟨_, _, ⟨T163, L163, k163, n163⟩, -, X163, ⟨Lc163, hQ163, l163, y163, z163⟩, st163⟩ := X161.virtualBack hx (y := (⟨"com/example/monitorgen/monitorgen/trace/Instant", "events", "()J"⟩ : MethodName)) (z := (⟨"com/example/monitorgen/monitorgen/trace/Instant", "events", "()J"⟩ : MethodName)) hown (mvT hZ (hw _ (List.mem_of_getElem? (i := 60) rfl))) (mvT hZ (hw _ (List.mem_of_getElem? (i := 61) rfl))) (notFace_of_selects (args := #[]) (mvT hZ (hw _ (List.mem_of_getElem? (i := 63) rfl)))) (mvT hZ (hw _ (List.mem_of_getElem? (i := 63) rfl))) (mvT hZ (hw _ (List.mem_of_getElem? (i := 62) rfl))) (by decide) (backOf (W := 0) (own_rm3 l Z a0 hw [] b1 tt__136 T136.heap n0 ZZ136 P136_5) hZ (hw _ (List.mem_of_getElem? (i := 64) rfl)) (hw _ (List.mem_of_getElem? (i := 2) rfl)) (by decide) (by decide)) qa163 qc163 (g := (mkF m 200 #[.val (.int xa), .val (.int xb), .val (.int xc), .val (.int xd), .val (.int xe), .val (.ref b1), .val (.int (xe &&& (3 : Int32))), .val (.int (own_v0_80 xe)), .val (.int (own_v0_84_s0 xa xb xc xd xe)), .val (.int (own_f8 (own_v0_84_s0 xa xb xc xd xe)))] [(.ref b1)])) rfl (by rw [hml]; rfl) (Steps.refl _) (argsL := []) (rest := []) (lenOf own_pd4 rfl) rfl (by show 2 * 0 + _ ≤ _; exact Nat.le_of_eq rfl) (hb hby at_200) (fun _ _ => ⟨rfl, e161, (by decide : 5 + 0 ≤ _), (by decide : 35 + 0 ≤ _)⟩)
          dsimp only [Pt.U, Pt.locs, Pt.cells, Pt.slots] at X163 l163 y163 z163 st163 hQ163
          subst y163 z163
          obtain ⟨rfl, N163q, e163⟩ := hQ163
          have N163 : Fr n0 L163 := l163 ▸ Fr.app N161 N163q
          refine own_go (T' := T163) (f' := (mkF m 203 #[.val (.int xa), .val (.int xb), .val (.int xc), .val (.int xd), .val (.int xe), .val (.ref b1), .val (.int (xe &&& (3 : Int32))), .val (.int (own_v0_80 xe)), .val (.int (own_v0_84_s0 xa xb xc xd xe)), .val (.int (own_f8 (own_v0_84_s0 xa xb xc xd xe)))] [(.long (own_f3 tt__136))])) ?_ (fun _ k => st163.trans k)
          refine own_go (T' := T163) (f' := (mkF m 204 #[.val (.int xa), .val (.int xb), .val (.int xc), .val (.int xd), .val (.int xe), .val (.ref b1), .val (.int (xe &&& (3 : Int32))), .val (.int (own_v0_80 xe)), .val (.int (own_v0_84_s0 xa xb xc xd xe)), .val (.int (own_f8 (own_v0_84_s0 xa xb xc xd xe)))] [(.long (1 : Int64)), (.long (own_f3 tt__136))])) ?_ (fun _ k => XS.lconst X163.here hx rfl (hb hby at_203) k)
          refine own_go (T' := T163) (f' := (mkF m 205 #[.val (.int xa), .val (.int xb), .val (.int xc), .val (.int xd), .val (.int xe), .val (.ref b1), .val (.int (xe &&& (3 : Int32))), .val (.int (own_v0_80 xe)), .val (.int (own_v0_84_s0 xa xb xc xd xe)), .val (.int (own_f8 (own_v0_84_s0 xa xb xc xd xe)))] [(.int (lcmpW (own_f3 tt__136) (1 : Int64)))])) ?_ (fun _ k => XS.lcmp X163.here hx rfl (hb hby at_204) rfl k)
          have hk205_164 : (lcmpW (own_f3 tt__136) (1 : Int64)) = (0 : Int32) := (own_t_tot1 P136_12 hc130_149)
          refine own_go (T' := T163) (f' := (mkF m 208 #[.val (.int xa), .val (.int xb), .val (.int xc), .val (.int xd), .val (.int xe), .val (.ref b1), .val (.int (xe &&& (3 : Int32))), .val (.int (own_v0_80 xe)), .val (.int (own_v0_84_s0 xa xb xc xd xe)), .val (.int (own_f8 (own_v0_84_s0 xa xb xc xd xe)))] [])) ?_ (fun _ k => XS.ifNo X163.here hx rfl (hb hby at_205) rfl ((if0 _ _).trans (teq hk205_164).2) k)
          refine own_go (T' := T163) (f' := (mkF m 210 #[.val (.int xa), .val (.int xb), .val (.int xc), .val (.int xd), .val (.int xe), .val (.ref b1), .val (.int (xe &&& (3 : Int32))), .val (.int (own_v0_80 xe)), .val (.int (own_v0_84_s0 xa xb xc xd xe)), .val (.int (own_f8 (own_v0_84_s0 xa xb xc xd xe)))] [(.ref b1)])) ?_ (fun _ k => XS.aload X163.here hx rfl (hb hby at_208) rfl rfl k)
          obtain ⟨cq165, kq165, qa165, qb165, qc165⟩ := isOf hZ e163 fa137
          obtain ⟨_, _, ⟨T165, L165, k165, n165⟩, -, X165, ⟨Lc165, hQ165, l165, y165, z165⟩, st165⟩ := X163.virtualBack hx (y := (⟨"com/example/monitorgen/monitorgen/trace/Instant", "ignored", "()J"⟩ : MethodName)) (z := (⟨"com/example/monitorgen/monitorgen/trace/Instant", "ignored", "()J"⟩ : MethodName)) hown (mvT hZ (hw _ (List.mem_of_getElem? (i := 65) rfl))) (mvT hZ (hw _ (List.mem_of_getElem? (i := 66) rfl))) (notFace_of_selects (args := #[]) (mvT hZ (hw _ (List.mem_of_getElem? (i := 68) rfl)))) (mvT hZ (hw _ (List.mem_of_getElem? (i := 68) rfl))) (mvT hZ (hw _ (List.mem_of_getElem? (i := 67) rfl))) (by decide) (backOf (W := 0) (own_rm4 l Z a0 hw [] b1 ig__136 T136.heap n0 ZZ136 P136_6) hZ (hw _ (List.mem_of_getElem? (i := 69) rfl)) (hw _ (List.mem_of_getElem? (i := 2) rfl)) (by decide) (by decide)) qa165 qc165 (g := (mkF m 210 #[.val (.int xa), .val (.int xb), .val (.int xc), .val (.int xd), .val (.int xe), .val (.ref b1), .val (.int (xe &&& (3 : Int32))), .val (.int (own_v0_80 xe)), .val (.int (own_v0_84_s0 xa xb xc xd xe)), .val (.int (own_f8 (own_v0_84_s0 xa xb xc xd xe)))] [(.ref b1)])) rfl (by rw [hml]; rfl) (Steps.refl _) (argsL := []) (rest := []) (lenOf own_pd4 rfl) rfl (by show 2 * 0 + _ ≤ _; exact Nat.le_of_eq rfl) (hb hby at_210) (fun _ _ => ⟨rfl, e163, (by decide : 5 + 0 ≤ _), (by decide : 35 + 0 ≤ _)⟩)
          dsimp only [Pt.U, Pt.locs, Pt.cells, Pt.slots] at X165 l165 y165 z165 st165 hQ165
          subst y165 z165
          obtain ⟨rfl, N165q, e165⟩ := hQ165
          have N165 : Fr n0 L165 := l165 ▸ Fr.app N163 N165q
          refine own_go (T' := T165) (f' := (mkF m 213 #[.val (.int xa), .val (.int xb), .val (.int xc), .val (.int xd), .val (.int xe), .val (.ref b1), .val (.int (xe &&& (3 : Int32))), .val (.int (own_v0_80 xe)), .val (.int (own_v0_84_s0 xa xb xc xd xe)), .val (.int (own_f8 (own_v0_84_s0 xa xb xc xd xe)))] [(.long (own_f4 ig__136))])) ?_ (fun _ k => st165.trans k)
          refine own_go (T' := T165) (f' := (mkF m 214 #[.val (.int xa), .val (.int xb), .val (.int xc), .val (.int xd), .val (.int xe), .val (.ref b1), .val (.int (xe &&& (3 : Int32))), .val (.int (own_v0_80 xe)), .val (.int (own_v0_84_s0 xa xb xc xd xe)), .val (.int (own_f8 (own_v0_84_s0 xa xb xc xd xe)))] [(.long (0 : Int64)), (.long (own_f4 ig__136))])) ?_ (fun _ k => XS.lconst X165.here hx rfl (hb hby at_213) k)
          refine own_go (T' := T165) (f' := (mkF m 215 #[.val (.int xa), .val (.int xb), .val (.int xc), .val (.int xd), .val (.int xe), .val (.ref b1), .val (.int (xe &&& (3 : Int32))), .val (.int (own_v0_80 xe)), .val (.int (own_v0_84_s0 xa xb xc xd xe)), .val (.int (own_f8 (own_v0_84_s0 xa xb xc xd xe)))] [(.int (lcmpW (own_f4 ig__136) (0 : Int64)))])) ?_ (fun _ k => XS.lcmp X165.here hx rfl (hb hby at_214) rfl k)
          have hk215_166 : (lcmpW (own_f4 ig__136) (0 : Int64)) = (0 : Int32) := (own_t_ign0 P136_12 hc130_149)
          refine own_go (T' := T165) (f' := (mkF m 218 #[.val (.int xa), .val (.int xb), .val (.int xc), .val (.int xd), .val (.int xe), .val (.ref b1), .val (.int (xe &&& (3 : Int32))), .val (.int (own_v0_80 xe)), .val (.int (own_v0_84_s0 xa xb xc xd xe)), .val (.int (own_f8 (own_v0_84_s0 xa xb xc xd xe)))] [])) ?_ (fun _ k => XS.ifNo X165.here hx rfl (hb hby at_215) rfl ((if0 _ _).trans (teq hk215_166).2) k)
          refine own_go (T' := T165) (f' := (mkF m 219 #[.val (.int xa), .val (.int xb), .val (.int xc), .val (.int xd), .val (.int xe), .val (.ref b1), .val (.int (xe &&& (3 : Int32))), .val (.int (own_v0_80 xe)), .val (.int (own_v0_84_s0 xa xb xc xd xe)), .val (.int (own_f8 (own_v0_84_s0 xa xb xc xd xe)))] [(.int (1 : Int32))])) ?_ (fun _ k => XS.iconst X165.here hx rfl (hb hby at_218) k)
          refine own_go (T' := T165) (f' := (mkF m 223 #[.val (.int xa), .val (.int xb), .val (.int xc), .val (.int xd), .val (.int xe), .val (.ref b1), .val (.int (xe &&& (3 : Int32))), .val (.int (own_v0_80 xe)), .val (.int (own_v0_84_s0 xa xb xc xd xe)), .val (.int (own_f8 (own_v0_84_s0 xa xb xc xd xe)))] [(.int (1 : Int32))])) ?_ (fun _ k => XS.goto X165.here hx rfl (pc0 := 219) (pc' := 223) rfl (hb hby at_219) (by decide) (by decide) k)
          obtain ⟨fs167, hr167, hrun167, hended167, hW167, hsame167⟩ := X165.leave (v := some (.int (1 : Int32))) (fun h => by rw [Bd.returns] at h; cases h)
          refine ⟨_, ⟨_, hrun167, hended167, _, _, rfl, ?_, ⟨_, rfl⟩, hW167, hsame167.mono (by decide) (by decide)⟩, fun _ k => (own_retZ X165 hx Bd.returns (by decide) (hb hby at_223) hr167).trans k⟩
          show own_Q0 Z xa xb xc xd xe h0 n0 _ T165.heap _
          rw [e165]
          exact ⟨rfl, N165⟩
    · refine own_go (T' := T13) (f' := (mkF m 44 #[.val (.int xa), .val (.int xb), .val (.int xc), .val (.int xd), .val (.int xe), .val (.ref b1), .val (.int (xe &&& (3 : Int32))), .unset, .unset, .unset] [])) ?_ (fun _ k => XS.icmpYes X13.here hx rfl (pc0 := 32) (pc' := 44) rfl (hb hby at_32) rfl (flt hc32_26).2.2.2 (by decide) (by decide) k)
      refine own_go (T' := T13) (f' := (mkF m 46 #[.val (.int xa), .val (.int xb), .val (.int xc), .val (.int xd), .val (.int xe), .val (.ref b1), .val (.int (xe &&& (3 : Int32))), .unset, .unset, .unset] [(.int (xe &&& (3 : Int32)))])) ?_ (fun _ k => XS.iload X13.here hx rfl (hb hby at_44) rfl  k)
      refine own_go (T' := T13) (f' := (mkF m 47 #[.val (.int xa), .val (.int xb), .val (.int xc), .val (.int xd), .val (.int xe), .val (.ref b1), .val (.int (xe &&& (3 : Int32))), .unset, .unset, .unset] [(.int (2 : Int32)), (.int (xe &&& (3 : Int32)))])) ?_ (fun _ k => XS.iconst X13.here hx rfl (hb hby at_46) k)
      have hk47_168 : ¬ ((2 : Int32) < (xe &&& (3 : Int32))) := (own_k2 hc32_26)
      refine own_go (T' := T13) (f' := (mkF m 59 #[.val (.int xa), .val (.int xb), .val (.int xc), .val (.int xd), .val (.int xe), .val (.ref b1), .val (.int (xe &&& (3 : Int32))), .unset, .unset, .unset] [])) ?_ (fun _ k => XS.icmpYes X13.here hx rfl (pc0 := 47) (pc' := 59) rfl (hb hby at_47) rfl (flt hk47_168).2.2.2 (by decide) (by decide) k)
      refine own_go (T' := T13) (f' := (mkF m 61 #[.val (.int xa), .val (.int xb), .val (.int xc), .val (.int xd), .val (.int xe), .val (.ref b1), .val (.int (xe &&& (3 : Int32))), .unset, .unset, .unset] [(.ref b1)])) ?_ (fun _ k => XS.aload X13.here hx rfl (hb hby at_59) rfl rfl k)
      obtain ⟨cq169, kq169, qa169, qb169, qc169⟩ := isOf hZ rfl fa14
      obtain ⟨_, _, ⟨T169, L169, k169, n169⟩, -, X169, ⟨Lc169, hQ169, l169, y169, z169⟩, st169⟩ := X13.virtualBack hx (y := (⟨"com/example/monitorgen/monitorgen/trace/Instant", "clear", "()V"⟩ : MethodName)) (z := (⟨"com/example/monitorgen/monitorgen/trace/Instant", "clear", "()V"⟩ : MethodName)) hown (mvT hZ (hw _ (List.mem_of_getElem? (i := 19) rfl))) (mvT hZ (hw _ (List.mem_of_getElem? (i := 20) rfl))) (notFace_of_selects (args := #[]) (mvT hZ (hw _ (List.mem_of_getElem? (i := 22) rfl)))) (mvT hZ (hw _ (List.mem_of_getElem? (i := 22) rfl))) (mvT hZ (hw _ (List.mem_of_getElem? (i := 21) rfl))) (by decide) (backOf (W := 0) (own_rm9 l Z a0 hw [] b1 oe_2 oc_2 oo_2 os_2 nd__13 tt__13 ig__13 LE__13 LC__13 LO__13 LS__13 1 T13.heap n0 ZZ13 fa14 P13_0 P13_1 P13_2 P13_3 P13_4 P13_5 P13_6 P13_7 P13_8 P13_9 P13_10 g_b1 g_oe_2 g_oc_2 g_oo_2 g_os_2 P2_4 P2_5 P2_6 P2_7 P2_8 P2_9 P2_10 P2_11 P2_12 P2_13 (P13_11) (by decide)) hZ (hw _ (List.mem_of_getElem? (i := 23) rfl)) (hw _ (List.mem_of_getElem? (i := 2) rfl)) (by decide) (by decide)) qa169 qc169 (g := (mkF m 61 #[.val (.int xa), .val (.int xb), .val (.int xc), .val (.int xd), .val (.int xe), .val (.ref b1), .val (.int (xe &&& (3 : Int32))), .unset, .unset, .unset] [(.ref b1)])) rfl (by rw [hml]; rfl) (Steps.refl _) (argsL := []) (rest := []) (lenOf own_pd0 rfl) rfl (by show 2 * 0 + _ ≤ _; exact Nat.le_of_eq rfl) (hb hby at_61) (fun _ _ => ⟨rfl, rfl, (by decide : 5 + 0 ≤ _), (by decide : 35 + 0 ≤ _)⟩)
      dsimp only [Pt.U, Pt.locs, Pt.cells, Pt.slots] at X169 l169 y169 z169 st169 hQ169
      subst y169 z169
      obtain ⟨rfl, N169q, K169, P169_0, P169_1, P169_2, P169_3, P169_4, P169_5, P169_6, P169_7⟩ := hQ169
      have fa170 := fa14.keep K169
      have fa178 := P13_7.keep K169 (ninS (Ne.symm P2_4) (ninS P2_10 nin0))
      have fa179 := P13_8.keep K169 (ninS (Ne.symm P2_5) (ninS P2_12 nin0))
      have fa180 := P13_9.keep K169 (ninS (Ne.symm P2_6) (ninS P2_13 nin0))
      have KK169 : Keep h0 T169.heap [] := KK13.trans K169 (allS (Or.inr sz_b1) (allS (Or.inr sz_os_2) all0))
      have ZZ169 : n0 ≤ T169.heap.size := Nat.le_trans ZZ13 K169.1
      have N169 : Fr n0 L169 := l169 ▸ Fr.app N13 N169q
      refine own_go (T' := T169) (f' := (mkF m 64 #[.val (.int xa), .val (.int xb), .val (.int xc), .val (.int xd), .val (.int xe), .val (.ref b1), .val (.int (xe &&& (3 : Int32))), .unset, .unset, .unset] [])) ?_ (fun _ k => st169.trans k)
      refine own_go (T' := T169) (f' := (mkF m 66 #[.val (.int xa), .val (.int xb), .val (.int xc), .val (.int xd), .val (.int xe), .val (.ref b1), .val (.int (xe &&& (3 : Int32))), .unset, .unset, .unset] [(.ref b1)])) ?_ (fun _ k => XS.aload X169.here hx rfl (hb hby at_64) rfl rfl k)
      obtain ⟨cq182, kq182, qa182, qb182, qc182⟩ := isOf hZ rfl fa170
      obtain ⟨_, _, ⟨T182, L182, k182, n182⟩, -, X182, ⟨Lc182, hQ182, l182, y182, z182⟩, st182⟩ := X169.virtualBack hx (y := (⟨"com/example/monitorgen/monitorgen/trace/Instant", "isEmpty", "()Z"⟩ : MethodName)) (z := (⟨"com/example/monitorgen/monitorgen/trace/Instant", "isEmpty", "()Z"⟩ : MethodName)) hown (mvT hZ (hw _ (List.mem_of_getElem? (i := 30) rfl))) (mvT hZ (hw _ (List.mem_of_getElem? (i := 31) rfl))) (notFace_of_selects (args := #[]) (mvT hZ (hw _ (List.mem_of_getElem? (i := 33) rfl)))) (mvT hZ (hw _ (List.mem_of_getElem? (i := 33) rfl))) (mvT hZ (hw _ (List.mem_of_getElem? (i := 32) rfl))) (by decide) (backOf (W := 0) (own_rm5 l Z a0 hw [] b1 (0 : Int64) (0 : Int64) T169.heap n0 ZZ169 P169_5 P169_6) hZ (hw _ (List.mem_of_getElem? (i := 34) rfl)) (hw _ (List.mem_of_getElem? (i := 2) rfl)) (by decide) (by decide)) qa182 qc182 (g := (mkF m 66 #[.val (.int xa), .val (.int xb), .val (.int xc), .val (.int xd), .val (.int xe), .val (.ref b1), .val (.int (xe &&& (3 : Int32))), .unset, .unset, .unset] [(.ref b1)])) rfl (by rw [hml]; rfl) (Steps.refl _) (argsL := []) (rest := []) (lenOf own_pd3 rfl) rfl (by show 2 * 0 + _ ≤ _; exact Nat.le_of_eq rfl) (hb hby at_66) (fun _ _ => ⟨rfl, rfl, (by decide : 5 + 0 ≤ _), (by decide : 35 + 0 ≤ _)⟩)
      dsimp only [Pt.U, Pt.locs, Pt.cells, Pt.slots] at X182 l182 y182 z182 st182 hQ182
      subst y182 z182
      obtain ⟨rfl, N182q, e182⟩ := hQ182
      have N182 : Fr n0 L182 := l182 ▸ Fr.app N169 N182q
      refine own_go (T' := T182) (f' := (mkF m 69 #[.val (.int xa), .val (.int xb), .val (.int xc), .val (.int xd), .val (.int xe), .val (.ref b1), .val (.int (xe &&& (3 : Int32))), .unset, .unset, .unset] [(.int (own_f5 (0 : Int64) (0 : Int64)))])) ?_ (fun _ k => st182.trans k)
      have hk69_183 : ¬ ((own_f5 (0 : Int64) (0 : Int64)) = (0 : Int32)) := (by decide)
      refine own_go (T' := T182) (f' := (mkF m 74 #[.val (.int xa), .val (.int xb), .val (.int xc), .val (.int xd), .val (.int xe), .val (.ref b1), .val (.int (xe &&& (3 : Int32))), .unset, .unset, .unset] [])) ?_ (fun _ k => XS.ifYes X182.here hx rfl (pc0 := 69) (pc' := 74) rfl (hb hby at_69) rfl ((if0 _ _).trans (feq hk69_183).2) (by decide) (by decide) k)
      refine own_go (T' := T182) (f' := (mkF m 76 #[.val (.int xa), .val (.int xb), .val (.int xc), .val (.int xd), .val (.int xe), .val (.ref b1), .val (.int (xe &&& (3 : Int32))), .unset, .unset, .unset] [(.int xe)])) ?_ (fun _ k => XS.iload X182.here hx rfl (hb hby at_74) rfl  k)
      refine own_go (T' := T182) (f' := (mkF m 77 #[.val (.int xa), .val (.int xb), .val (.int xc), .val (.int xd), .val (.int xe), .val (.ref b1), .val (.int (xe &&& (3 : Int32))), .unset, .unset, .unset] [(.int (2 : Int32)), (.int xe)])) ?_ (fun _ k => XS.iconst X182.here hx rfl (hb hby at_76) k)
      refine own_go (T' := T182) (f' := (mkF m 78 #[.val (.int xa), .val (.int xb), .val (.int xc), .val (.int xd), .val (.int xe), .val (.ref b1), .val (.int (xe &&& (3 : Int32))), .unset, .unset, .unset] [(.int ((xe.toUInt32 >>> ((2 : Int32) &&& 31).toUInt32).toInt32))])) ?_ (fun _ k => XS.iushr X182.here hx rfl (hb hby at_77) rfl k)
      refine own_go (T' := T182) (f' := (mkF m 79 #[.val (.int xa), .val (.int xb), .val (.int xc), .val (.int xd), .val (.int xe), .val (.ref b1), .val (.int (xe &&& (3 : Int32))), .unset, .unset, .unset] [(.int (3 : Int32)), (.int ((xe.toUInt32 >>> ((2 : Int32) &&& 31).toUInt32).toInt32))])) ?_ (fun _ k => XS.iconst X182.here hx rfl (hb hby at_78) k)
      refine own_go (T' := T182) (f' := (mkF m 80 #[.val (.int xa), .val (.int xb), .val (.int xc), .val (.int xd), .val (.int xe), .val (.ref b1), .val (.int (xe &&& (3 : Int32))), .unset, .unset, .unset] [(.int (((xe.toUInt32 >>> ((2 : Int32) &&& 31).toUInt32).toInt32) &&& (3 : Int32)))])) ?_ (fun _ k => XS.iand X182.here hx rfl (hb hby at_79) rfl k)
      refine own_go (T' := T182) (f' := (mkF m 82 #[.val (.int xa), .val (.int xb), .val (.int xc), .val (.int xd), .val (.int xe), .val (.ref b1), .val (.int (xe &&& (3 : Int32))), .val (.int (own_v0_80 xe)), .unset, .unset] [])) ?_ (fun _ k => XS.istore X182.here hx rfl (hb hby at_80) rfl (l' := #[.val (.int xa), .val (.int xb), .val (.int xc), .val (.int xd), .val (.int xe), .val (.ref b1), .val (.int (xe &&& (3 : Int32))), .val (.int (own_v0_80 xe)), .unset, .unset]) rfl k)
      refine own_go (T' := T182) (f' := (mkF m 84 #[.val (.int xa), .val (.int xb), .val (.int xc), .val (.int xd), .val (.int xe), .val (.ref b1), .val (.int (xe &&& (3 : Int32))), .val (.int (own_v0_80 xe)), .unset, .unset] [(.int (own_v0_80 xe))])) ?_ (fun _ k => XS.iload X182.here hx rfl (hb hby at_82) rfl  k)
      obtain ⟨_, ⟨T184, L184, rfl, X184, e184, N184⟩, mg184⟩ : own_Goes p.tables e below (fun uu => ∃ (T' : State) (L' : List Loc), uu = T'.setTop (mkF m 112 #[.val (.int xa), .val (.int xb), .val (.int xc), .val (.int xd), .val (.int xe), .val (.ref b1), .val (.int (xe &&& (3 : Int32))), .val (.int (own_v0_80 xe)), .unset, .unset] [(.int (own_v0_84_s0 xa xb xc xd xe))]) ∧ Stand p l e room_1 s m #[(.int xa), (.int xb), (.int xc), (.int xd), (.int xe)] below meth c T' L' 5 35 ∧ T'.heap = T169.heap ∧ Fr n0 L') T182 (mkF m 84 #[.val (.int xa), .val (.int xb), .val (.int xc), .val (.int xd), .val (.int xe), .val (.ref b1), .val (.int (xe &&& (3 : Int32))), .val (.int (own_v0_80 xe)), .unset, .unset] [(.int (own_v0_80 xe))]) := by
        by_cases hc84_185 : (own_v0_80 xe) = (0 : Int32)
        · refine own_go (T' := T182) (f' := (mkF m 87 #[.val (.int xa), .val (.int xb), .val (.int xc), .val (.int xd), .val (.int xe), .val (.ref b1), .val (.int (xe &&& (3 : Int32))), .val (.int (own_v0_80 xe)), .unset, .unset] [])) ?_ (fun _ k => XS.ifNo X182.here hx rfl (hb hby at_84) rfl ((if0 _ _).trans (teq hc84_185).2) k)
          refine own_go (T' := T182) (f' := (mkF m 88 #[.val (.int xa), .val (.int xb), .val (.int xc), .val (.int xd), .val (.int xe), .val (.ref b1), .val (.int (xe &&& (3 : Int32))), .val (.int (own_v0_80 xe)), .unset, .unset] [(.int xa)])) ?_ (fun _ k => XS.iloadN X182.here hx rfl (hb hby at_87) rfl  k)
          refine own_go (T' := T182) (f' := (mkF m 112 #[.val (.int xa), .val (.int xb), .val (.int xc), .val (.int xd), .val (.int xe), .val (.ref b1), .val (.int (xe &&& (3 : Int32))), .val (.int (own_v0_80 xe)), .unset, .unset] [(.int xa)])) ?_ (fun _ k => XS.goto X182.here hx rfl (pc0 := 88) (pc' := 112) rfl (hb hby at_88) (by decide) (by decide) k)
          have em186 : (own_v0_84_s0 xa xb xc xd xe) = xa := (if_pos hc84_185)
          exact ⟨_, ⟨T182, _, (by rw [em186]), X182, e182, N182⟩, fun _ k => k⟩
        · refine own_go (T' := T182) (f' := (mkF m 91 #[.val (.int xa), .val (.int xb), .val (.int xc), .val (.int xd), .val (.int xe), .val (.ref b1), .val (.int (xe &&& (3 : Int32))), .val (.int (own_v0_80 xe)), .unset, .unset] [])) ?_ (fun _ k => XS.ifYes X182.here hx rfl (pc0 := 84) (pc' := 91) rfl (hb hby at_84) rfl ((if0 _ _).trans (feq hc84_185).2) (by decide) (by decide) k)
          refine own_go (T' := T182) (f' := (mkF m 93 #[.val (.int xa), .val (.int xb), .val (.int xc), .val (.int xd), .val (.int xe), .val (.ref b1), .val (.int (xe &&& (3 : Int32))), .val (.int (own_v0_80 xe)), .unset, .unset] [(.int (own_v0_80 xe))])) ?_ (fun _ k => XS.iload X182.here hx rfl (hb hby at_91) rfl  k)
          refine own_go (T' := T182) (f' := (mkF m 94 #[.val (.int xa), .val (.int xb), .val (.int xc), .val (.int xd), .val (.int xe), .val (.ref b1), .val (.int (xe &&& (3 : Int32))), .val (.int (own_v0_80 xe)), .unset, .unset] [(.int (1 : Int32)), (.int (own_v0_80 xe))])) ?_ (fun _ k => XS.iconst X182.here hx rfl (hb hby at_93) k)
          by_cases hc94_187 : (own_v0_80 xe) = (1 : Int32)
          · refine own_go (T' := T182) (f' := (mkF m 97 #[.val (.int xa), .val (.int xb), .val (.int xc), .val (.int xd), .val (.int xe), .val (.ref b1), .val (.int (xe &&& (3 : Int32))), .val (.int (own_v0_80 xe)), .unset, .unset] [])) ?_ (fun _ k => XS.icmpNo X182.here hx rfl (hb hby at_94) rfl (teq hc94_187).2 k)
            refine own_go (T' := T182) (f' := (mkF m 98 #[.val (.int xa), .val (.int xb), .val (.int xc), .val (.int xd), .val (.int xe), .val (.ref b1), .val (.int (xe &&& (3 : Int32))), .val (.int (own_v0_80 xe)), .unset, .unset] [(.int xb)])) ?_ (fun _ k => XS.iloadN X182.here hx rfl (hb hby at_97) rfl  k)
            refine own_go (T' := T182) (f' := (mkF m 112 #[.val (.int xa), .val (.int xb), .val (.int xc), .val (.int xd), .val (.int xe), .val (.ref b1), .val (.int (xe &&& (3 : Int32))), .val (.int (own_v0_80 xe)), .unset, .unset] [(.int xb)])) ?_ (fun _ k => XS.goto X182.here hx rfl (pc0 := 98) (pc' := 112) rfl (hb hby at_98) (by decide) (by decide) k)
            have em188 : (own_v0_84_s0 xa xb xc xd xe) = xb := (Eq.trans (if_neg hc84_185) (if_pos hc94_187))
            exact ⟨_, ⟨T182, _, (by rw [em188]), X182, e182, N182⟩, fun _ k => k⟩
          · refine own_go (T' := T182) (f' := (mkF m 101 #[.val (.int xa), .val (.int xb), .val (.int xc), .val (.int xd), .val (.int xe), .val (.ref b1), .val (.int (xe &&& (3 : Int32))), .val (.int (own_v0_80 xe)), .unset, .unset] [])) ?_ (fun _ k => XS.icmpYes X182.here hx rfl (pc0 := 94) (pc' := 101) rfl (hb hby at_94) rfl (feq hc94_187).2 (by decide) (by decide) k)
            refine own_go (T' := T182) (f' := (mkF m 103 #[.val (.int xa), .val (.int xb), .val (.int xc), .val (.int xd), .val (.int xe), .val (.ref b1), .val (.int (xe &&& (3 : Int32))), .val (.int (own_v0_80 xe)), .unset, .unset] [(.int (own_v0_80 xe))])) ?_ (fun _ k => XS.iload X182.here hx rfl (hb hby at_101) rfl  k)
            refine own_go (T' := T182) (f' := (mkF m 104 #[.val (.int xa), .val (.int xb), .val (.int xc), .val (.int xd), .val (.int xe), .val (.ref b1), .val (.int (xe &&& (3 : Int32))), .val (.int (own_v0_80 xe)), .unset, .unset] [(.int (2 : Int32)), (.int (own_v0_80 xe))])) ?_ (fun _ k => XS.iconst X182.here hx rfl (hb hby at_103) k)
            by_cases hc104_189 : (own_v0_80 xe) = (2 : Int32)
            · refine own_go (T' := T182) (f' := (mkF m 107 #[.val (.int xa), .val (.int xb), .val (.int xc), .val (.int xd), .val (.int xe), .val (.ref b1), .val (.int (xe &&& (3 : Int32))), .val (.int (own_v0_80 xe)), .unset, .unset] [])) ?_ (fun _ k => XS.icmpNo X182.here hx rfl (hb hby at_104) rfl (teq hc104_189).2 k)
              refine own_go (T' := T182) (f' := (mkF m 108 #[.val (.int xa), .val (.int xb), .val (.int xc), .val (.int xd), .val (.int xe), .val (.ref b1), .val (.int (xe &&& (3 : Int32))), .val (.int (own_v0_80 xe)), .unset, .unset] [(.int xc)])) ?_ (fun _ k => XS.iloadN X182.here hx rfl (hb hby at_107) rfl  k)
              refine own_go (T' := T182) (f' := (mkF m 112 #[.val (.int xa), .val (.int xb), .val (.int xc), .val (.int xd), .val (.int xe), .val (.ref b1), .val (.int (xe &&& (3 : Int32))), .val (.int (own_v0_80 xe)), .unset, .unset] [(.int xc)])) ?_ (fun _ k => XS.goto X182.here hx rfl (pc0 := 108) (pc' := 112) rfl (hb hby at_108) (by decide) (by decide) k)
              have em190 : (own_v0_84_s0 xa xb xc xd xe) = xc := (Eq.trans (if_neg hc84_185) (Eq.trans (if_neg hc94_187) (if_pos hc104_189)))
              exact ⟨_, ⟨T182, _, (by rw [em190]), X182, e182, N182⟩, fun _ k => k⟩
            · refine own_go (T' := T182) (f' := (mkF m 111 #[.val (.int xa), .val (.int xb), .val (.int xc), .val (.int xd), .val (.int xe), .val (.ref b1), .val (.int (xe &&& (3 : Int32))), .val (.int (own_v0_80 xe)), .unset, .unset] [])) ?_ (fun _ k => XS.icmpYes X182.here hx rfl (pc0 := 104) (pc' := 111) rfl (hb hby at_104) rfl (feq hc104_189).2 (by decide) (by decide) k)
              refine own_go (T' := T182) (f' := (mkF m 112 #[.val (.int xa), .val (.int xb), .val (.int xc), .val (.int xd), .val (.int xe), .val (.ref b1), .val (.int (xe &&& (3 : Int32))), .val (.int (own_v0_80 xe)), .unset, .unset] [(.int xd)])) ?_ (fun _ k => XS.iloadN X182.here hx rfl (hb hby at_111) rfl  k)
              have em191 : (own_v0_84_s0 xa xb xc xd xe) = xd := (Eq.trans (if_neg hc84_185) (Eq.trans (if_neg hc94_187) (if_neg hc104_189)))
              exact ⟨_, ⟨T182, _, (by rw [em191]), X182, e182, N182⟩, fun _ k => k⟩
      refine own_go (T' := T184) (f' := (mkF m 112 #[.val (.int xa), .val (.int xb), .val (.int xc), .val (.int xd), .val (.int xe), .val (.ref b1), .val (.int (xe &&& (3 : Int32))), .val (.int (own_v0_80 xe)), .unset, .unset] [(.int (own_v0_84_s0 xa xb xc xd xe))])) ?_ (mg184)
      refine own_go (T' := T184) (f' := (mkF m 114 #[.val (.int xa), .val (.int xb), .val (.int xc), .val (.int xd), .val (.int xe), .val (.ref b1), .val (.int (xe &&& (3 : Int32))), .val (.int (own_v0_80 xe)), .val (.int (own_v0_84_s0 xa xb xc xd xe)), .unset] [])) ?_ (fun _ k => XS.istore X184.here hx rfl (hb hby at_112) rfl (l' := #[.val (.int xa), .val (.int xb), .val (.int xc), .val (.int xd), .val (.int xe), .val (.ref b1), .val (.int (xe &&& (3 : Int32))), .val (.int (own_v0_80 xe)), .val (.int (own_v0_84_s0 xa xb xc xd xe)), .unset]) rfl k)
      refine own_go (T' := T184) (f' := (mkF m 116 #[.val (.int xa), .val (.int xb), .val (.int xc), .val (.int xd), .val (.int xe), .val (.ref b1), .val (.int (xe &&& (3 : Int32))), .val (.int (own_v0_80 xe)), .val (.int (own_v0_84_s0 xa xb xc xd xe)), .unset] [(.int (own_v0_84_s0 xa xb xc xd xe))])) ?_ (fun _ k => XS.iload X184.here hx rfl (hb hby at_114) rfl  k)
      obtain ⟨_, _, ⟨T192, L192, k192, n192⟩, -, X192, ⟨Lc192, hQ192, l192, y192, z192⟩, st192⟩ := Jvm.LawKit.callS X184 hx (y := (⟨"com/example/monitorgen/monitorgen/trace/InstantClearPinLaw", "ev", "(I)I"⟩ : MethodName)) hown (mvT hZ (hw _ (List.mem_of_getElem? (i := 35) rfl))) (mvT hZ (hw _ (List.mem_of_getElem? (i := 36) rfl))) (mvT hZ (hw _ (List.mem_of_getElem? (i := 37) rfl))) (mvT hZ (hw _ (List.mem_of_getElem? (i := 38) rfl))) (by decide) (backOf (W := 0) (own_rm8 l Z a0 hw [] (own_v0_84_s0 xa xb xc xd xe) T169.heap n0 ZZ169) hZ (hw _ (List.mem_of_getElem? (i := 38) rfl)) (hw _ (List.mem_of_getElem? (i := 37) rfl)) (by decide) (by decide)) (g := (mkF m 116 #[.val (.int xa), .val (.int xb), .val (.int xc), .val (.int xd), .val (.int xe), .val (.ref b1), .val (.int (xe &&& (3 : Int32))), .val (.int (own_v0_80 xe)), .val (.int (own_v0_84_s0 xa xb xc xd xe)), .unset] [(.int (own_v0_84_s0 xa xb xc xd xe))])) rfl (by rw [hml]; rfl) (argsL := [(.int (own_v0_84_s0 xa xb xc xd xe))]) (rest := []) (lenOf own_pd1 rfl) rfl (by show 2 * 0 + _ ≤ _; exact Nat.le_of_eq rfl) (hb hby at_116) (fun _ _ => ⟨rfl, e184, (by decide : 5 + 0 ≤ _), (by decide : 35 + 0 ≤ _)⟩)
      dsimp only [Pt.U, Pt.locs, Pt.cells, Pt.slots] at X192 l192 y192 z192 st192 hQ192
      subst y192 z192
      obtain ⟨rfl, N192q, e192⟩ := hQ192
      have N192 : Fr n0 L192 := l192 ▸ Fr.app N184 N192q
      refine own_go (T' := T192) (f' := (mkF m 119 #[.val (.int xa), .val (.int xb), .val (.int xc), .val (.int xd), .val (.int xe), .val (.ref b1), .val (.int (xe &&& (3 : Int32))), .val (.int (own_v0_80 xe)), .val (.int (own_v0_84_s0 xa xb xc xd xe)), .unset] [(.int (own_f8 (own_v0_84_s0 xa xb xc xd xe)))])) ?_ (st192)
      refine own_go (T' := T192) (f' := (mkF m 121 #[.val (.int xa), .val (.int xb), .val (.int xc), .val (.int xd), .val (.int xe), .val (.ref b1), .val (.int (xe &&& (3 : Int32))), .val (.int (own_v0_80 xe)), .val (.int (own_v0_84_s0 xa xb xc xd xe)), .val (.int (own_f8 (own_v0_84_s0 xa xb xc xd xe)))] [])) ?_ (fun _ k => XS.istore X192.here hx rfl (hb hby at_119) rfl (l' := #[.val (.int xa), .val (.int xb), .val (.int xc), .val (.int xd), .val (.int xe), .val (.ref b1), .val (.int (xe &&& (3 : Int32))), .val (.int (own_v0_80 xe)), .val (.int (own_v0_84_s0 xa xb xc xd xe)), .val (.int (own_f8 (own_v0_84_s0 xa xb xc xd xe)))]) rfl k)
      refine own_go (T' := T192) (f' := (mkF m 123 #[.val (.int xa), .val (.int xb), .val (.int xc), .val (.int xd), .val (.int xe), .val (.ref b1), .val (.int (xe &&& (3 : Int32))), .val (.int (own_v0_80 xe)), .val (.int (own_v0_84_s0 xa xb xc xd xe)), .val (.int (own_f8 (own_v0_84_s0 xa xb xc xd xe)))] [(.ref b1)])) ?_ (fun _ k => XS.aload X192.here hx rfl (hb hby at_121) rfl rfl k)
      refine own_go (T' := T192) (f' := (mkF m 125 #[.val (.int xa), .val (.int xb), .val (.int xc), .val (.int xd), .val (.int xe), .val (.ref b1), .val (.int (xe &&& (3 : Int32))), .val (.int (own_v0_80 xe)), .val (.int (own_v0_84_s0 xa xb xc xd xe)), .val (.int (own_f8 (own_v0_84_s0 xa xb xc xd xe)))] [(.int (own_f8 (own_v0_84_s0 xa xb xc xd xe))), (.ref b1)])) ?_ (fun _ k => XS.iload X192.here hx rfl (hb hby at_123) rfl  k)
      obtain ⟨cq193, kq193, qa193, qb193, qc193⟩ := isOf hZ e192 fa170
      obtain ⟨_, _, ⟨T193, L193, k193, n193⟩, -, X193, ⟨Lc193, hQ193, l193, y193, z193⟩, st193⟩ := X192.virtualBack hx (y := (⟨"com/example/monitorgen/monitorgen/trace/Instant", "add", "(I)V"⟩ : MethodName)) (z := (⟨"com/example/monitorgen/monitorgen/trace/Instant", "add", "(I)V"⟩ : MethodName)) hown (mvT hZ (hw _ (List.mem_of_getElem? (i := 39) rfl))) (mvT hZ (hw _ (List.mem_of_getElem? (i := 40) rfl))) (notFace_of_selects (args := #[]) (mvT hZ (hw _ (List.mem_of_getElem? (i := 42) rfl)))) (mvT hZ (hw _ (List.mem_of_getElem? (i := 42) rfl))) (mvT hZ (hw _ (List.mem_of_getElem? (i := 41) rfl))) (by decide) (backOf (W := 0) (own_rm10 l Z a0 hw [] b1 (own_f8 (own_v0_84_s0 xa xb xc xd xe)) oe_2 oc_2 oo_2 os_2 (0 : Int32) (0 : Int64) (0 : Int64) LE__13 LC__13 LO__13 [(0 : Int32), (0 : Int32), (0 : Int32), (0 : Int32), (0 : Int32), (0 : Int32), (0 : Int32), (0 : Int32), (0 : Int32), (0 : Int32), (0 : Int32), (0 : Int32), (0 : Int32), (0 : Int32), (0 : Int32), (0 : Int32)] 0 T169.heap n0 ZZ169 fa170 P169_0 P169_1 P169_2 P169_3 P169_4 P169_5 P169_6 fa178 fa179 fa180 P169_7 g_b1 g_oe_2 g_oc_2 g_oo_2 g_os_2 P2_4 P2_5 P2_6 P2_7 P2_8 P2_9 P2_10 P2_11 P2_12 P2_13 (own_inv1 _) (by decide)) hZ (hw _ (List.mem_of_getElem? (i := 43) rfl)) (hw _ (List.mem_of_getElem? (i := 2) rfl)) (by decide) (by decide)) qa193 qc193 (g := (mkF m 125 #[.val (.int xa), .val (.int xb), .val (.int xc), .val (.int xd), .val (.int xe), .val (.ref b1), .val (.int (xe &&& (3 : Int32))), .val (.int (own_v0_80 xe)), .val (.int (own_v0_84_s0 xa xb xc xd xe)), .val (.int (own_f8 (own_v0_84_s0 xa xb xc xd xe)))] [(.int (own_f8 (own_v0_84_s0 xa xb xc xd xe))), (.ref b1)])) rfl (by rw [hml]; rfl) (Steps.refl _) (argsL := [(.int (own_f8 (own_v0_84_s0 xa xb xc xd xe)))]) (rest := []) (lenOf own_pd2 rfl) rfl (by show 2 * 0 + _ ≤ _; exact Nat.le_of_eq rfl) (hb hby at_125) (fun _ _ => ⟨rfl, e192, (by decide : 5 + 0 ≤ _), (by decide : 35 + 0 ≤ _)⟩)
      dsimp only [Pt.U, Pt.locs, Pt.cells, Pt.slots] at X193 l193 y193 z193 st193 hQ193
      subst y193 z193
      obtain ⟨nd__193, tt__193, ig__193, LE__193, LC__193, LO__193, LS__193, rfl, N193q, K193, P193_0, P193_1, P193_2, P193_3, P193_4, P193_5, P193_6, P193_7, P193_8, P193_9, P193_10, P193_11, P193_12⟩ := hQ193
      have fa194 := fa170.keep K193
      have KK193 : Keep h0 T193.heap [] := KK169.trans K193 (allS (Or.inr sz_b1) (allS (Or.inr sz_oe_2) (allS (Or.inr sz_oc_2) (allS (Or.inr sz_oo_2) (allS (Or.inr sz_os_2) all0)))))
      have ZZ193 : n0 ≤ T193.heap.size := Nat.le_trans ZZ169 K193.1
      have N193 : Fr n0 L193 := l193 ▸ Fr.app N192 N193q
      refine own_go (T' := T193) (f' := (mkF m 128 #[.val (.int xa), .val (.int xb), .val (.int xc), .val (.int xd), .val (.int xe), .val (.ref b1), .val (.int (xe &&& (3 : Int32))), .val (.int (own_v0_80 xe)), .val (.int (own_v0_84_s0 xa xb xc xd xe)), .val (.int (own_f8 (own_v0_84_s0 xa xb xc xd xe)))] [])) ?_ (fun _ k => st193.trans k)
      refine own_go (T' := T193) (f' := (mkF m 130 #[.val (.int xa), .val (.int xb), .val (.int xc), .val (.int xd), .val (.int xe), .val (.ref b1), .val (.int (xe &&& (3 : Int32))), .val (.int (own_v0_80 xe)), .val (.int (own_v0_84_s0 xa xb xc xd xe)), .val (.int (own_f8 (own_v0_84_s0 xa xb xc xd xe)))] [(.int (own_f8 (own_v0_84_s0 xa xb xc xd xe)))])) ?_ (fun _ k => XS.iload X193.here hx rfl (hb hby at_128) rfl  k)
      by_cases hc130_206 : (own_f8 (own_v0_84_s0 xa xb xc xd xe)) < (0 : Int32)
      · refine own_go (T' := T193) (f' := (mkF m 133 #[.val (.int xa), .val (.int xb), .val (.int xc), .val (.int xd), .val (.int xe), .val (.ref b1), .val (.int (xe &&& (3 : Int32))), .val (.int (own_v0_80 xe)), .val (.int (own_v0_84_s0 xa xb xc xd xe)), .val (.int (own_f8 (own_v0_84_s0 xa xb xc xd xe)))] [])) ?_ (fun _ k => XS.ifNo X193.here hx rfl (hb hby at_130) rfl ((if0 _ _).trans (tlt hc130_206).2.1) k)
        refine own_go (T' := T193) (f' := (mkF m 135 #[.val (.int xa), .val (.int xb), .val (.int xc), .val (.int xd), .val (.int xe), .val (.ref b1), .val (.int (xe &&& (3 : Int32))), .val (.int (own_v0_80 xe)), .val (.int (own_v0_84_s0 xa xb xc xd xe)), .val (.int (own_f8 (own_v0_84_s0 xa xb xc xd xe)))] [(.ref b1)])) ?_ (fun _ k => XS.aload X193.here hx rfl (hb hby at_133) rfl rfl k)
        obtain ⟨cq207, kq207, qa207, qb207, qc207⟩ := isOf hZ rfl fa194
        obtain ⟨_, _, ⟨T207, L207, k207, n207⟩, -, X207, ⟨Lc207, hQ207, l207, y207, z207⟩, st207⟩ := X193.virtualBack hx (y := (⟨"com/example/monitorgen/monitorgen/trace/Instant", "ignored", "()J"⟩ : MethodName)) (z := (⟨"com/example/monitorgen/monitorgen/trace/Instant", "ignored", "()J"⟩ : MethodName)) hown (mvT hZ (hw _ (List.mem_of_getElem? (i := 65) rfl))) (mvT hZ (hw _ (List.mem_of_getElem? (i := 66) rfl))) (notFace_of_selects (args := #[]) (mvT hZ (hw _ (List.mem_of_getElem? (i := 68) rfl)))) (mvT hZ (hw _ (List.mem_of_getElem? (i := 68) rfl))) (mvT hZ (hw _ (List.mem_of_getElem? (i := 67) rfl))) (by decide) (backOf (W := 0) (own_rm4 l Z a0 hw [] b1 ig__193 T193.heap n0 ZZ193 P193_6) hZ (hw _ (List.mem_of_getElem? (i := 69) rfl)) (hw _ (List.mem_of_getElem? (i := 2) rfl)) (by decide) (by decide)) qa207 qc207 (g := (mkF m 135 #[.val (.int xa), .val (.int xb), .val (.int xc), .val (.int xd), .val (.int xe), .val (.ref b1), .val (.int (xe &&& (3 : Int32))), .val (.int (own_v0_80 xe)), .val (.int (own_v0_84_s0 xa xb xc xd xe)), .val (.int (own_f8 (own_v0_84_s0 xa xb xc xd xe)))] [(.ref b1)])) rfl (by rw [hml]; rfl) (Steps.refl _) (argsL := []) (rest := []) (lenOf own_pd4 rfl) rfl (by show 2 * 0 + _ ≤ _; exact Nat.le_of_eq rfl) (hb hby at_135) (fun _ _ => ⟨rfl, rfl, (by decide : 5 + 0 ≤ _), (by decide : 35 + 0 ≤ _)⟩)
        dsimp only [Pt.U, Pt.locs, Pt.cells, Pt.slots] at X207 l207 y207 z207 st207 hQ207
        subst y207 z207
        obtain ⟨rfl, N207q, e207⟩ := hQ207
        have N207 : Fr n0 L207 := l207 ▸ Fr.app N193 N207q
        refine own_go (T' := T207) (f' := (mkF m 138 #[.val (.int xa), .val (.int xb), .val (.int xc), .val (.int xd), .val (.int xe), .val (.ref b1), .val (.int (xe &&& (3 : Int32))), .val (.int (own_v0_80 xe)), .val (.int (own_v0_84_s0 xa xb xc xd xe)), .val (.int (own_f8 (own_v0_84_s0 xa xb xc xd xe)))] [(.long (own_f4 ig__193))])) ?_ (fun _ k => st207.trans k)
        refine own_go (T' := T207) (f' := (mkF m 139 #[.val (.int xa), .val (.int xb), .val (.int xc), .val (.int xd), .val (.int xe), .val (.ref b1), .val (.int (xe &&& (3 : Int32))), .val (.int (own_v0_80 xe)), .val (.int (own_v0_84_s0 xa xb xc xd xe)), .val (.int (own_f8 (own_v0_84_s0 xa xb xc xd xe)))] [(.long (1 : Int64)), (.long (own_f4 ig__193))])) ?_ (fun _ k => XS.lconst X207.here hx rfl (hb hby at_138) k)
        refine own_go (T' := T207) (f' := (mkF m 140 #[.val (.int xa), .val (.int xb), .val (.int xc), .val (.int xd), .val (.int xe), .val (.ref b1), .val (.int (xe &&& (3 : Int32))), .val (.int (own_v0_80 xe)), .val (.int (own_v0_84_s0 xa xb xc xd xe)), .val (.int (own_f8 (own_v0_84_s0 xa xb xc xd xe)))] [(.int (lcmpW (own_f4 ig__193) (1 : Int64)))])) ?_ (fun _ k => XS.lcmp X207.here hx rfl (hb hby at_139) rfl k)
        have hk140_208 : (lcmpW (own_f4 ig__193) (1 : Int64)) = (0 : Int32) := (own_t_ign P193_12 hc130_206)
        refine own_go (T' := T207) (f' := (mkF m 143 #[.val (.int xa), .val (.int xb), .val (.int xc), .val (.int xd), .val (.int xe), .val (.ref b1), .val (.int (xe &&& (3 : Int32))), .val (.int (own_v0_80 xe)), .val (.int (own_v0_84_s0 xa xb xc xd xe)), .val (.int (own_f8 (own_v0_84_s0 xa xb xc xd xe)))] [])) ?_ (fun _ k => XS.ifNo X207.here hx rfl (hb hby at_140) rfl ((if0 _ _).trans (teq hk140_208).2) k)
        refine own_go (T' := T207) (f' := (mkF m 145 #[.val (.int xa), .val (.int xb), .val (.int xc), .val (.int xd), .val (.int xe), .val (.ref b1), .val (.int (xe &&& (3 : Int32))), .val (.int (own_v0_80 xe)), .val (.int (own_v0_84_s0 xa xb xc xd xe)), .val (.int (own_f8 (own_v0_84_s0 xa xb xc xd xe)))] [(.ref b1)])) ?_ (fun _ k => XS.aload X207.here hx rfl (hb hby at_143) rfl rfl k)
        obtain ⟨cq209, kq209, qa209, qb209, qc209⟩ := isOf hZ e207 fa194
        obtain ⟨_, _, ⟨T209, L209, k209, n209⟩, -, X209, ⟨Lc209, hQ209, l209, y209, z209⟩, st209⟩ := X207.virtualBack hx (y := (⟨"com/example/monitorgen/monitorgen/trace/Instant", "events", "()J"⟩ : MethodName)) (z := (⟨"com/example/monitorgen/monitorgen/trace/Instant", "events", "()J"⟩ : MethodName)) hown (mvT hZ (hw _ (List.mem_of_getElem? (i := 60) rfl))) (mvT hZ (hw _ (List.mem_of_getElem? (i := 61) rfl))) (notFace_of_selects (args := #[]) (mvT hZ (hw _ (List.mem_of_getElem? (i := 63) rfl)))) (mvT hZ (hw _ (List.mem_of_getElem? (i := 63) rfl))) (mvT hZ (hw _ (List.mem_of_getElem? (i := 62) rfl))) (by decide) (backOf (W := 0) (own_rm3 l Z a0 hw [] b1 tt__193 T193.heap n0 ZZ193 P193_5) hZ (hw _ (List.mem_of_getElem? (i := 64) rfl)) (hw _ (List.mem_of_getElem? (i := 2) rfl)) (by decide) (by decide)) qa209 qc209 (g := (mkF m 145 #[.val (.int xa), .val (.int xb), .val (.int xc), .val (.int xd), .val (.int xe), .val (.ref b1), .val (.int (xe &&& (3 : Int32))), .val (.int (own_v0_80 xe)), .val (.int (own_v0_84_s0 xa xb xc xd xe)), .val (.int (own_f8 (own_v0_84_s0 xa xb xc xd xe)))] [(.ref b1)])) rfl (by rw [hml]; rfl) (Steps.refl _) (argsL := []) (rest := []) (lenOf own_pd4 rfl) rfl (by show 2 * 0 + _ ≤ _; exact Nat.le_of_eq rfl) (hb hby at_145) (fun _ _ => ⟨rfl, e207, (by decide : 5 + 0 ≤ _), (by decide : 35 + 0 ≤ _)⟩)
        dsimp only [Pt.U, Pt.locs, Pt.cells, Pt.slots] at X209 l209 y209 z209 st209 hQ209
        subst y209 z209
        obtain ⟨rfl, N209q, e209⟩ := hQ209
        have N209 : Fr n0 L209 := l209 ▸ Fr.app N207 N209q
        refine own_go (T' := T209) (f' := (mkF m 148 #[.val (.int xa), .val (.int xb), .val (.int xc), .val (.int xd), .val (.int xe), .val (.ref b1), .val (.int (xe &&& (3 : Int32))), .val (.int (own_v0_80 xe)), .val (.int (own_v0_84_s0 xa xb xc xd xe)), .val (.int (own_f8 (own_v0_84_s0 xa xb xc xd xe)))] [(.long (own_f3 tt__193))])) ?_ (fun _ k => st209.trans k)
        refine own_go (T' := T209) (f' := (mkF m 149 #[.val (.int xa), .val (.int xb), .val (.int xc), .val (.int xd), .val (.int xe), .val (.ref b1), .val (.int (xe &&& (3 : Int32))), .val (.int (own_v0_80 xe)), .val (.int (own_v0_84_s0 xa xb xc xd xe)), .val (.int (own_f8 (own_v0_84_s0 xa xb xc xd xe)))] [(.long (0 : Int64)), (.long (own_f3 tt__193))])) ?_ (fun _ k => XS.lconst X209.here hx rfl (hb hby at_148) k)
        refine own_go (T' := T209) (f' := (mkF m 150 #[.val (.int xa), .val (.int xb), .val (.int xc), .val (.int xd), .val (.int xe), .val (.ref b1), .val (.int (xe &&& (3 : Int32))), .val (.int (own_v0_80 xe)), .val (.int (own_v0_84_s0 xa xb xc xd xe)), .val (.int (own_f8 (own_v0_84_s0 xa xb xc xd xe)))] [(.int (lcmpW (own_f3 tt__193) (0 : Int64)))])) ?_ (fun _ k => XS.lcmp X209.here hx rfl (hb hby at_149) rfl k)
        have hk150_210 : (lcmpW (own_f3 tt__193) (0 : Int64)) = (0 : Int32) := (own_t_tot0 P193_12 hc130_206)
        refine own_go (T' := T209) (f' := (mkF m 153 #[.val (.int xa), .val (.int xb), .val (.int xc), .val (.int xd), .val (.int xe), .val (.ref b1), .val (.int (xe &&& (3 : Int32))), .val (.int (own_v0_80 xe)), .val (.int (own_v0_84_s0 xa xb xc xd xe)), .val (.int (own_f8 (own_v0_84_s0 xa xb xc xd xe)))] [])) ?_ (fun _ k => XS.ifNo X209.here hx rfl (hb hby at_150) rfl ((if0 _ _).trans (teq hk150_210).2) k)
        refine own_go (T' := T209) (f' := (mkF m 155 #[.val (.int xa), .val (.int xb), .val (.int xc), .val (.int xd), .val (.int xe), .val (.ref b1), .val (.int (xe &&& (3 : Int32))), .val (.int (own_v0_80 xe)), .val (.int (own_v0_84_s0 xa xb xc xd xe)), .val (.int (own_f8 (own_v0_84_s0 xa xb xc xd xe)))] [(.ref b1)])) ?_ (fun _ k => XS.aload X209.here hx rfl (hb hby at_153) rfl rfl k)
        obtain ⟨cq211, kq211, qa211, qb211, qc211⟩ := isOf hZ e209 fa194
        obtain ⟨_, _, ⟨T211, L211, k211, n211⟩, -, X211, ⟨Lc211, hQ211, l211, y211, z211⟩, st211⟩ := X209.virtualBack hx (y := (⟨"com/example/monitorgen/monitorgen/trace/Instant", "distinct", "()I"⟩ : MethodName)) (z := (⟨"com/example/monitorgen/monitorgen/trace/Instant", "distinct", "()I"⟩ : MethodName)) hown (mvT hZ (hw _ (List.mem_of_getElem? (i := 45) rfl))) (mvT hZ (hw _ (List.mem_of_getElem? (i := 46) rfl))) (notFace_of_selects (args := #[]) (mvT hZ (hw _ (List.mem_of_getElem? (i := 48) rfl)))) (mvT hZ (hw _ (List.mem_of_getElem? (i := 48) rfl))) (mvT hZ (hw _ (List.mem_of_getElem? (i := 47) rfl))) (by decide) (backOf (W := 0) (own_rm2 l Z a0 hw [] b1 nd__193 T193.heap n0 ZZ193 P193_4) hZ (hw _ (List.mem_of_getElem? (i := 49) rfl)) (hw _ (List.mem_of_getElem? (i := 2) rfl)) (by decide) (by decide)) qa211 qc211 (g := (mkF m 155 #[.val (.int xa), .val (.int xb), .val (.int xc), .val (.int xd), .val (.int xe), .val (.ref b1), .val (.int (xe &&& (3 : Int32))), .val (.int (own_v0_80 xe)), .val (.int (own_v0_84_s0 xa xb xc xd xe)), .val (.int (own_f8 (own_v0_84_s0 xa xb xc xd xe)))] [(.ref b1)])) rfl (by rw [hml]; rfl) (Steps.refl _) (argsL := []) (rest := []) (lenOf own_pd5 rfl) rfl (by show 2 * 0 + _ ≤ _; exact Nat.le_of_eq rfl) (hb hby at_155) (fun _ _ => ⟨rfl, e209, (by decide : 5 + 0 ≤ _), (by decide : 35 + 0 ≤ _)⟩)
        dsimp only [Pt.U, Pt.locs, Pt.cells, Pt.slots] at X211 l211 y211 z211 st211 hQ211
        subst y211 z211
        obtain ⟨rfl, N211q, e211⟩ := hQ211
        have N211 : Fr n0 L211 := l211 ▸ Fr.app N209 N211q
        refine own_go (T' := T211) (f' := (mkF m 158 #[.val (.int xa), .val (.int xb), .val (.int xc), .val (.int xd), .val (.int xe), .val (.ref b1), .val (.int (xe &&& (3 : Int32))), .val (.int (own_v0_80 xe)), .val (.int (own_v0_84_s0 xa xb xc xd xe)), .val (.int (own_f8 (own_v0_84_s0 xa xb xc xd xe)))] [(.int (own_f2 nd__193))])) ?_ (fun _ k => st211.trans k)
        have hk158_212 : (own_f2 nd__193) = (0 : Int32) := (own_t_nd0 P193_12 hc130_206)
        refine own_go (T' := T211) (f' := (mkF m 161 #[.val (.int xa), .val (.int xb), .val (.int xc), .val (.int xd), .val (.int xe), .val (.ref b1), .val (.int (xe &&& (3 : Int32))), .val (.int (own_v0_80 xe)), .val (.int (own_v0_84_s0 xa xb xc xd xe)), .val (.int (own_f8 (own_v0_84_s0 xa xb xc xd xe)))] [])) ?_ (fun _ k => XS.ifNo X211.here hx rfl (hb hby at_158) rfl ((if0 _ _).trans (teq hk158_212).2) k)
        refine own_go (T' := T211) (f' := (mkF m 162 #[.val (.int xa), .val (.int xb), .val (.int xc), .val (.int xd), .val (.int xe), .val (.ref b1), .val (.int (xe &&& (3 : Int32))), .val (.int (own_v0_80 xe)), .val (.int (own_v0_84_s0 xa xb xc xd xe)), .val (.int (own_f8 (own_v0_84_s0 xa xb xc xd xe)))] [(.int (1 : Int32))])) ?_ (fun _ k => XS.iconst X211.here hx rfl (hb hby at_161) k)
        refine own_go (T' := T211) (f' := (mkF m 166 #[.val (.int xa), .val (.int xb), .val (.int xc), .val (.int xd), .val (.int xe), .val (.ref b1), .val (.int (xe &&& (3 : Int32))), .val (.int (own_v0_80 xe)), .val (.int (own_v0_84_s0 xa xb xc xd xe)), .val (.int (own_f8 (own_v0_84_s0 xa xb xc xd xe)))] [(.int (1 : Int32))])) ?_ (fun _ k => XS.goto X211.here hx rfl (pc0 := 162) (pc' := 166) rfl (hb hby at_162) (by decide) (by decide) k)
        obtain ⟨fs213, hr213, hrun213, hended213, hW213, hsame213⟩ := X211.leave (v := some (.int (1 : Int32))) (fun h => by rw [Bd.returns] at h; cases h)
        refine ⟨_, ⟨_, hrun213, hended213, _, _, rfl, ?_, ⟨_, rfl⟩, hW213, hsame213.mono (by decide) (by decide)⟩, fun _ k => (own_retZ X211 hx Bd.returns (by decide) (hb hby at_166) hr213).trans k⟩
        show own_Q0 Z xa xb xc xd xe h0 n0 _ T211.heap _
        rw [e211]
        exact ⟨rfl, N211⟩
      · refine own_go (T' := T193) (f' := (mkF m 167 #[.val (.int xa), .val (.int xb), .val (.int xc), .val (.int xd), .val (.int xe), .val (.ref b1), .val (.int (xe &&& (3 : Int32))), .val (.int (own_v0_80 xe)), .val (.int (own_v0_84_s0 xa xb xc xd xe)), .val (.int (own_f8 (own_v0_84_s0 xa xb xc xd xe)))] [])) ?_ (fun _ k => XS.ifYes X193.here hx rfl (pc0 := 130) (pc' := 167) rfl (hb hby at_130) rfl ((if0 _ _).trans (flt hc130_206).2.1) (by decide) (by decide) k)
        refine own_go (T' := T193) (f' := (mkF m 169 #[.val (.int xa), .val (.int xb), .val (.int xc), .val (.int xd), .val (.int xe), .val (.ref b1), .val (.int (xe &&& (3 : Int32))), .val (.int (own_v0_80 xe)), .val (.int (own_v0_84_s0 xa xb xc xd xe)), .val (.int (own_f8 (own_v0_84_s0 xa xb xc xd xe)))] [(.ref b1)])) ?_ (fun _ k => XS.aload X193.here hx rfl (hb hby at_167) rfl rfl k)
        obtain ⟨cq214, kq214, qa214, qb214, qc214⟩ := isOf hZ rfl fa194
        obtain ⟨_, _, ⟨T214, L214, k214, n214⟩, -, X214, ⟨Lc214, hQ214, l214, y214, z214⟩, st214⟩ := X193.virtualBack hx (y := (⟨"com/example/monitorgen/monitorgen/trace/Instant", "distinct", "()I"⟩ : MethodName)) (z := (⟨"com/example/monitorgen/monitorgen/trace/Instant", "distinct", "()I"⟩ : MethodName)) hown (mvT hZ (hw _ (List.mem_of_getElem? (i := 45) rfl))) (mvT hZ (hw _ (List.mem_of_getElem? (i := 46) rfl))) (notFace_of_selects (args := #[]) (mvT hZ (hw _ (List.mem_of_getElem? (i := 48) rfl)))) (mvT hZ (hw _ (List.mem_of_getElem? (i := 48) rfl))) (mvT hZ (hw _ (List.mem_of_getElem? (i := 47) rfl))) (by decide) (backOf (W := 0) (own_rm2 l Z a0 hw [] b1 nd__193 T193.heap n0 ZZ193 P193_4) hZ (hw _ (List.mem_of_getElem? (i := 49) rfl)) (hw _ (List.mem_of_getElem? (i := 2) rfl)) (by decide) (by decide)) qa214 qc214 (g := (mkF m 169 #[.val (.int xa), .val (.int xb), .val (.int xc), .val (.int xd), .val (.int xe), .val (.ref b1), .val (.int (xe &&& (3 : Int32))), .val (.int (own_v0_80 xe)), .val (.int (own_v0_84_s0 xa xb xc xd xe)), .val (.int (own_f8 (own_v0_84_s0 xa xb xc xd xe)))] [(.ref b1)])) rfl (by rw [hml]; rfl) (Steps.refl _) (argsL := []) (rest := []) (lenOf own_pd5 rfl) rfl (by show 2 * 0 + _ ≤ _; exact Nat.le_of_eq rfl) (hb hby at_169) (fun _ _ => ⟨rfl, rfl, (by decide : 5 + 0 ≤ _), (by decide : 35 + 0 ≤ _)⟩)
        dsimp only [Pt.U, Pt.locs, Pt.cells, Pt.slots] at X214 l214 y214 z214 st214 hQ214
        subst y214 z214
        obtain ⟨rfl, N214q, e214⟩ := hQ214
        have N214 : Fr n0 L214 := l214 ▸ Fr.app N193 N214q
        refine own_go (T' := T214) (f' := (mkF m 172 #[.val (.int xa), .val (.int xb), .val (.int xc), .val (.int xd), .val (.int xe), .val (.ref b1), .val (.int (xe &&& (3 : Int32))), .val (.int (own_v0_80 xe)), .val (.int (own_v0_84_s0 xa xb xc xd xe)), .val (.int (own_f8 (own_v0_84_s0 xa xb xc xd xe)))] [(.int (own_f2 nd__193))])) ?_ (fun _ k => st214.trans k)
        refine own_go (T' := T214) (f' := (mkF m 173 #[.val (.int xa), .val (.int xb), .val (.int xc), .val (.int xd), .val (.int xe), .val (.ref b1), .val (.int (xe &&& (3 : Int32))), .val (.int (own_v0_80 xe)), .val (.int (own_v0_84_s0 xa xb xc xd xe)), .val (.int (own_f8 (own_v0_84_s0 xa xb xc xd xe)))] [(.int (1 : Int32)), (.int (own_f2 nd__193))])) ?_ (fun _ k => XS.iconst X214.here hx rfl (hb hby at_172) k)
        have hk173_215 : (own_f2 nd__193) = (1 : Int32) := (own_t_nd1 P193_12 hc130_206)
        refine own_go (T' := T214) (f' := (mkF m 176 #[.val (.int xa), .val (.int xb), .val (.int xc), .val (.int xd), .val (.int xe), .val (.ref b1), .val (.int (xe &&& (3 : Int32))), .val (.int (own_v0_80 xe)), .val (.int (own_v0_84_s0 xa xb xc xd xe)), .val (.int (own_f8 (own_v0_84_s0 xa xb xc xd xe)))] [])) ?_ (fun _ k => XS.icmpNo X214.here hx rfl (hb hby at_173) rfl (teq hk173_215).2 k)
        refine own_go (T' := T214) (f' := (mkF m 178 #[.val (.int xa), .val (.int xb), .val (.int xc), .val (.int xd), .val (.int xe), .val (.ref b1), .val (.int (xe &&& (3 : Int32))), .val (.int (own_v0_80 xe)), .val (.int (own_v0_84_s0 xa xb xc xd xe)), .val (.int (own_f8 (own_v0_84_s0 xa xb xc xd xe)))] [(.ref b1)])) ?_ (fun _ k => XS.aload X214.here hx rfl (hb hby at_176) rfl rfl k)
        refine own_go (T' := T214) (f' := (mkF m 179 #[.val (.int xa), .val (.int xb), .val (.int xc), .val (.int xd), .val (.int xe), .val (.ref b1), .val (.int (xe &&& (3 : Int32))), .val (.int (own_v0_80 xe)), .val (.int (own_v0_84_s0 xa xb xc xd xe)), .val (.int (own_f8 (own_v0_84_s0 xa xb xc xd xe)))] [(.int (0 : Int32)), (.ref b1)])) ?_ (fun _ k => XS.iconst X214.here hx rfl (hb hby at_178) k)
        obtain ⟨cq216, kq216, qa216, qb216, qc216⟩ := isOf hZ e214 fa194
        obtain ⟨_, _, ⟨T216, L216, k216, n216⟩, -, X216, ⟨Lc216, hQ216, l216, y216, z216⟩, st216⟩ := X214.virtualBack hx (y := (⟨"com/example/monitorgen/monitorgen/trace/Instant", "event", "(I)I"⟩ : MethodName)) (z := (⟨"com/example/monitorgen/monitorgen/trace/Instant", "event", "(I)I"⟩ : MethodName)) hown (mvT hZ (hw _ (List.mem_of_getElem? (i := 50) rfl))) (mvT hZ (hw _ (List.mem_of_getElem? (i := 51) rfl))) (notFace_of_selects (args := #[]) (mvT hZ (hw _ (List.mem_of_getElem? (i := 53) rfl)))) (mvT hZ (hw _ (List.mem_of_getElem? (i := 53) rfl))) (mvT hZ (hw _ (List.mem_of_getElem? (i := 52) rfl))) (by decide) (backOf (W := 0) (own_rm6 l Z a0 hw [] b1 oe_2 LE__193 T193.heap n0 ZZ193 P193_0 P193_7) hZ (hw _ (List.mem_of_getElem? (i := 54) rfl)) (hw _ (List.mem_of_getElem? (i := 2) rfl)) (by decide) (by decide)) qa216 qc216 (g := (mkF m 179 #[.val (.int xa), .val (.int xb), .val (.int xc), .val (.int xd), .val (.int xe), .val (.ref b1), .val (.int (xe &&& (3 : Int32))), .val (.int (own_v0_80 xe)), .val (.int (own_v0_84_s0 xa xb xc xd xe)), .val (.int (own_f8 (own_v0_84_s0 xa xb xc xd xe)))] [(.int (0 : Int32)), (.ref b1)])) rfl (by rw [hml]; rfl) (Steps.refl _) (argsL := [(.int (0 : Int32))]) (rest := []) (lenOf own_pd1 rfl) rfl (by show 2 * 0 + _ ≤ _; exact Nat.le_of_eq rfl) (hb hby at_179) (fun _ _ => ⟨rfl, e214, (by decide : 5 + 0 ≤ _), (by decide : 35 + 0 ≤ _)⟩)
        dsimp only [Pt.U, Pt.locs, Pt.cells, Pt.slots] at X216 l216 y216 z216 st216 hQ216
        subst y216 z216
        obtain ⟨rfl, N216q, e216⟩ := hQ216
        have N216 : Fr n0 L216 := l216 ▸ Fr.app N214 N216q
        refine own_go (T' := T216) (f' := (mkF m 182 #[.val (.int xa), .val (.int xb), .val (.int xc), .val (.int xd), .val (.int xe), .val (.ref b1), .val (.int (xe &&& (3 : Int32))), .val (.int (own_v0_80 xe)), .val (.int (own_v0_84_s0 xa xb xc xd xe)), .val (.int (own_f8 (own_v0_84_s0 xa xb xc xd xe)))] [(.int (own_f6 LE__193))])) ?_ (fun _ k => st216.trans k)
        refine own_go (T' := T216) (f' := (mkF m 184 #[.val (.int xa), .val (.int xb), .val (.int xc), .val (.int xd), .val (.int xe), .val (.ref b1), .val (.int (xe &&& (3 : Int32))), .val (.int (own_v0_80 xe)), .val (.int (own_v0_84_s0 xa xb xc xd xe)), .val (.int (own_f8 (own_v0_84_s0 xa xb xc xd xe)))] [(.int (own_f8 (own_v0_84_s0 xa xb xc xd xe))), (.int (own_f6 LE__193))])) ?_ (fun _ k => XS.iload X216.here hx rfl (hb hby at_182) rfl  k)
        have hk184_217 : (own_f6 LE__193) = (own_f8 (own_v0_84_s0 xa xb xc xd xe)) := (own_t_ev P193_12 hc130_206)
        refine own_go (T' := T216) (f' := (mkF m 187 #[.val (.int xa), .val (.int xb), .val (.int xc), .val (.int xd), .val (.int xe), .val (.ref b1), .val (.int (xe &&& (3 : Int32))), .val (.int (own_v0_80 xe)), .val (.int (own_v0_84_s0 xa xb xc xd xe)), .val (.int (own_f8 (own_v0_84_s0 xa xb xc xd xe)))] [])) ?_ (fun _ k => XS.icmpNo X216.here hx rfl (hb hby at_184) rfl (teq hk184_217).2 k)
        refine own_go (T' := T216) (f' := (mkF m 189 #[.val (.int xa), .val (.int xb), .val (.int xc), .val (.int xd), .val (.int xe), .val (.ref b1), .val (.int (xe &&& (3 : Int32))), .val (.int (own_v0_80 xe)), .val (.int (own_v0_84_s0 xa xb xc xd xe)), .val (.int (own_f8 (own_v0_84_s0 xa xb xc xd xe)))] [(.ref b1)])) ?_ (fun _ k => XS.aload X216.here hx rfl (hb hby at_187) rfl rfl k)
        refine own_go (T' := T216) (f' := (mkF m 190 #[.val (.int xa), .val (.int xb), .val (.int xc), .val (.int xd), .val (.int xe), .val (.ref b1), .val (.int (xe &&& (3 : Int32))), .val (.int (own_v0_80 xe)), .val (.int (own_v0_84_s0 xa xb xc xd xe)), .val (.int (own_f8 (own_v0_84_s0 xa xb xc xd xe)))] [(.int (0 : Int32)), (.ref b1)])) ?_ (fun _ k => XS.iconst X216.here hx rfl (hb hby at_189) k)
        obtain ⟨cq218, kq218, qa218, qb218, qc218⟩ := isOf hZ e216 fa194
        obtain ⟨_, _, ⟨T218, L218, k218, n218⟩, -, X218, ⟨Lc218, hQ218, l218, y218, z218⟩, st218⟩ := X216.virtualBack hx (y := (⟨"com/example/monitorgen/monitorgen/trace/Instant", "count", "(I)J"⟩ : MethodName)) (z := (⟨"com/example/monitorgen/monitorgen/trace/Instant", "count", "(I)J"⟩ : MethodName)) hown (mvT hZ (hw _ (List.mem_of_getElem? (i := 55) rfl))) (mvT hZ (hw _ (List.mem_of_getElem? (i := 56) rfl))) (notFace_of_selects (args := #[]) (mvT hZ (hw _ (List.mem_of_getElem? (i := 58) rfl)))) (mvT hZ (hw _ (List.mem_of_getElem? (i := 58) rfl))) (mvT hZ (hw _ (List.mem_of_getElem? (i := 57) rfl))) (by decide) (backOf (W := 0) (own_rm7 l Z a0 hw [] b1 oc_2 LC__193 T193.heap n0 ZZ193 P193_1 P193_8) hZ (hw _ (List.mem_of_getElem? (i := 59) rfl)) (hw _ (List.mem_of_getElem? (i := 2) rfl)) (by decide) (by decide)) qa218 qc218 (g := (mkF m 190 #[.val (.int xa), .val (.int xb), .val (.int xc), .val (.int xd), .val (.int xe), .val (.ref b1), .val (.int (xe &&& (3 : Int32))), .val (.int (own_v0_80 xe)), .val (.int (own_v0_84_s0 xa xb xc xd xe)), .val (.int (own_f8 (own_v0_84_s0 xa xb xc xd xe)))] [(.int (0 : Int32)), (.ref b1)])) rfl (by rw [hml]; rfl) (Steps.refl _) (argsL := [(.int (0 : Int32))]) (rest := []) (lenOf own_pd6 rfl) rfl (by show 2 * 0 + _ ≤ _; exact Nat.le_of_eq rfl) (hb hby at_190) (fun _ _ => ⟨rfl, e216, (by decide : 5 + 0 ≤ _), (by decide : 35 + 0 ≤ _)⟩)
        dsimp only [Pt.U, Pt.locs, Pt.cells, Pt.slots] at X218 l218 y218 z218 st218 hQ218
        subst y218 z218
        obtain ⟨rfl, N218q, e218⟩ := hQ218
        have N218 : Fr n0 L218 := l218 ▸ Fr.app N216 N218q
        refine own_go (T' := T218) (f' := (mkF m 193 #[.val (.int xa), .val (.int xb), .val (.int xc), .val (.int xd), .val (.int xe), .val (.ref b1), .val (.int (xe &&& (3 : Int32))), .val (.int (own_v0_80 xe)), .val (.int (own_v0_84_s0 xa xb xc xd xe)), .val (.int (own_f8 (own_v0_84_s0 xa xb xc xd xe)))] [(.long (own_f7 LC__193))])) ?_ (fun _ k => st218.trans k)
        refine own_go (T' := T218) (f' := (mkF m 194 #[.val (.int xa), .val (.int xb), .val (.int xc), .val (.int xd), .val (.int xe), .val (.ref b1), .val (.int (xe &&& (3 : Int32))), .val (.int (own_v0_80 xe)), .val (.int (own_v0_84_s0 xa xb xc xd xe)), .val (.int (own_f8 (own_v0_84_s0 xa xb xc xd xe)))] [(.long (1 : Int64)), (.long (own_f7 LC__193))])) ?_ (fun _ k => XS.lconst X218.here hx rfl (hb hby at_193) k)
        refine own_go (T' := T218) (f' := (mkF m 195 #[.val (.int xa), .val (.int xb), .val (.int xc), .val (.int xd), .val (.int xe), .val (.ref b1), .val (.int (xe &&& (3 : Int32))), .val (.int (own_v0_80 xe)), .val (.int (own_v0_84_s0 xa xb xc xd xe)), .val (.int (own_f8 (own_v0_84_s0 xa xb xc xd xe)))] [(.int (lcmpW (own_f7 LC__193) (1 : Int64)))])) ?_ (fun _ k => XS.lcmp X218.here hx rfl (hb hby at_194) rfl k)
        have hk195_219 : (lcmpW (own_f7 LC__193) (1 : Int64)) = (0 : Int32) := (own_t_cnt P193_12 hc130_206)
        refine own_go (T' := T218) (f' := (mkF m 198 #[.val (.int xa), .val (.int xb), .val (.int xc), .val (.int xd), .val (.int xe), .val (.ref b1), .val (.int (xe &&& (3 : Int32))), .val (.int (own_v0_80 xe)), .val (.int (own_v0_84_s0 xa xb xc xd xe)), .val (.int (own_f8 (own_v0_84_s0 xa xb xc xd xe)))] [])) ?_ (fun _ k => XS.ifNo X218.here hx rfl (hb hby at_195) rfl ((if0 _ _).trans (teq hk195_219).2) k)
        refine own_go (T' := T218) (f' := (mkF m 200 #[.val (.int xa), .val (.int xb), .val (.int xc), .val (.int xd), .val (.int xe), .val (.ref b1), .val (.int (xe &&& (3 : Int32))), .val (.int (own_v0_80 xe)), .val (.int (own_v0_84_s0 xa xb xc xd xe)), .val (.int (own_f8 (own_v0_84_s0 xa xb xc xd xe)))] [(.ref b1)])) ?_ (fun _ k => XS.aload X218.here hx rfl (hb hby at_198) rfl rfl k)
        obtain ⟨cq220, kq220, qa220, qb220, qc220⟩ := isOf hZ e218 fa194
        obtain ⟨_, _, ⟨T220, L220, k220, n220⟩, -, X220, ⟨Lc220, hQ220, l220, y220, z220⟩, st220⟩ := X218.virtualBack hx (y := (⟨"com/example/monitorgen/monitorgen/trace/Instant", "events", "()J"⟩ : MethodName)) (z := (⟨"com/example/monitorgen/monitorgen/trace/Instant", "events", "()J"⟩ : MethodName)) hown (mvT hZ (hw _ (List.mem_of_getElem? (i := 60) rfl))) (mvT hZ (hw _ (List.mem_of_getElem? (i := 61) rfl))) (notFace_of_selects (args := #[]) (mvT hZ (hw _ (List.mem_of_getElem? (i := 63) rfl)))) (mvT hZ (hw _ (List.mem_of_getElem? (i := 63) rfl))) (mvT hZ (hw _ (List.mem_of_getElem? (i := 62) rfl))) (by decide) (backOf (W := 0) (own_rm3 l Z a0 hw [] b1 tt__193 T193.heap n0 ZZ193 P193_5) hZ (hw _ (List.mem_of_getElem? (i := 64) rfl)) (hw _ (List.mem_of_getElem? (i := 2) rfl)) (by decide) (by decide)) qa220 qc220 (g := (mkF m 200 #[.val (.int xa), .val (.int xb), .val (.int xc), .val (.int xd), .val (.int xe), .val (.ref b1), .val (.int (xe &&& (3 : Int32))), .val (.int (own_v0_80 xe)), .val (.int (own_v0_84_s0 xa xb xc xd xe)), .val (.int (own_f8 (own_v0_84_s0 xa xb xc xd xe)))] [(.ref b1)])) rfl (by rw [hml]; rfl) (Steps.refl _) (argsL := []) (rest := []) (lenOf own_pd4 rfl) rfl (by show 2 * 0 + _ ≤ _; exact Nat.le_of_eq rfl) (hb hby at_200) (fun _ _ => ⟨rfl, e218, (by decide : 5 + 0 ≤ _), (by decide : 35 + 0 ≤ _)⟩)
        dsimp only [Pt.U, Pt.locs, Pt.cells, Pt.slots] at X220 l220 y220 z220 st220 hQ220
        subst y220 z220
        obtain ⟨rfl, N220q, e220⟩ := hQ220
        have N220 : Fr n0 L220 := l220 ▸ Fr.app N218 N220q
        refine own_go (T' := T220) (f' := (mkF m 203 #[.val (.int xa), .val (.int xb), .val (.int xc), .val (.int xd), .val (.int xe), .val (.ref b1), .val (.int (xe &&& (3 : Int32))), .val (.int (own_v0_80 xe)), .val (.int (own_v0_84_s0 xa xb xc xd xe)), .val (.int (own_f8 (own_v0_84_s0 xa xb xc xd xe)))] [(.long (own_f3 tt__193))])) ?_ (fun _ k => st220.trans k)
        refine own_go (T' := T220) (f' := (mkF m 204 #[.val (.int xa), .val (.int xb), .val (.int xc), .val (.int xd), .val (.int xe), .val (.ref b1), .val (.int (xe &&& (3 : Int32))), .val (.int (own_v0_80 xe)), .val (.int (own_v0_84_s0 xa xb xc xd xe)), .val (.int (own_f8 (own_v0_84_s0 xa xb xc xd xe)))] [(.long (1 : Int64)), (.long (own_f3 tt__193))])) ?_ (fun _ k => XS.lconst X220.here hx rfl (hb hby at_203) k)
        refine own_go (T' := T220) (f' := (mkF m 205 #[.val (.int xa), .val (.int xb), .val (.int xc), .val (.int xd), .val (.int xe), .val (.ref b1), .val (.int (xe &&& (3 : Int32))), .val (.int (own_v0_80 xe)), .val (.int (own_v0_84_s0 xa xb xc xd xe)), .val (.int (own_f8 (own_v0_84_s0 xa xb xc xd xe)))] [(.int (lcmpW (own_f3 tt__193) (1 : Int64)))])) ?_ (fun _ k => XS.lcmp X220.here hx rfl (hb hby at_204) rfl k)
        have hk205_221 : (lcmpW (own_f3 tt__193) (1 : Int64)) = (0 : Int32) := (own_t_tot1 P193_12 hc130_206)
        refine own_go (T' := T220) (f' := (mkF m 208 #[.val (.int xa), .val (.int xb), .val (.int xc), .val (.int xd), .val (.int xe), .val (.ref b1), .val (.int (xe &&& (3 : Int32))), .val (.int (own_v0_80 xe)), .val (.int (own_v0_84_s0 xa xb xc xd xe)), .val (.int (own_f8 (own_v0_84_s0 xa xb xc xd xe)))] [])) ?_ (fun _ k => XS.ifNo X220.here hx rfl (hb hby at_205) rfl ((if0 _ _).trans (teq hk205_221).2) k)
        refine own_go (T' := T220) (f' := (mkF m 210 #[.val (.int xa), .val (.int xb), .val (.int xc), .val (.int xd), .val (.int xe), .val (.ref b1), .val (.int (xe &&& (3 : Int32))), .val (.int (own_v0_80 xe)), .val (.int (own_v0_84_s0 xa xb xc xd xe)), .val (.int (own_f8 (own_v0_84_s0 xa xb xc xd xe)))] [(.ref b1)])) ?_ (fun _ k => XS.aload X220.here hx rfl (hb hby at_208) rfl rfl k)
        obtain ⟨cq222, kq222, qa222, qb222, qc222⟩ := isOf hZ e220 fa194
        obtain ⟨_, _, ⟨T222, L222, k222, n222⟩, -, X222, ⟨Lc222, hQ222, l222, y222, z222⟩, st222⟩ := X220.virtualBack hx (y := (⟨"com/example/monitorgen/monitorgen/trace/Instant", "ignored", "()J"⟩ : MethodName)) (z := (⟨"com/example/monitorgen/monitorgen/trace/Instant", "ignored", "()J"⟩ : MethodName)) hown (mvT hZ (hw _ (List.mem_of_getElem? (i := 65) rfl))) (mvT hZ (hw _ (List.mem_of_getElem? (i := 66) rfl))) (notFace_of_selects (args := #[]) (mvT hZ (hw _ (List.mem_of_getElem? (i := 68) rfl)))) (mvT hZ (hw _ (List.mem_of_getElem? (i := 68) rfl))) (mvT hZ (hw _ (List.mem_of_getElem? (i := 67) rfl))) (by decide) (backOf (W := 0) (own_rm4 l Z a0 hw [] b1 ig__193 T193.heap n0 ZZ193 P193_6) hZ (hw _ (List.mem_of_getElem? (i := 69) rfl)) (hw _ (List.mem_of_getElem? (i := 2) rfl)) (by decide) (by decide)) qa222 qc222 (g := (mkF m 210 #[.val (.int xa), .val (.int xb), .val (.int xc), .val (.int xd), .val (.int xe), .val (.ref b1), .val (.int (xe &&& (3 : Int32))), .val (.int (own_v0_80 xe)), .val (.int (own_v0_84_s0 xa xb xc xd xe)), .val (.int (own_f8 (own_v0_84_s0 xa xb xc xd xe)))] [(.ref b1)])) rfl (by rw [hml]; rfl) (Steps.refl _) (argsL := []) (rest := []) (lenOf own_pd4 rfl) rfl (by show 2 * 0 + _ ≤ _; exact Nat.le_of_eq rfl) (hb hby at_210) (fun _ _ => ⟨rfl, e220, (by decide : 5 + 0 ≤ _), (by decide : 35 + 0 ≤ _)⟩)
        dsimp only [Pt.U, Pt.locs, Pt.cells, Pt.slots] at X222 l222 y222 z222 st222 hQ222
        subst y222 z222
        obtain ⟨rfl, N222q, e222⟩ := hQ222
        have N222 : Fr n0 L222 := l222 ▸ Fr.app N220 N222q
        refine own_go (T' := T222) (f' := (mkF m 213 #[.val (.int xa), .val (.int xb), .val (.int xc), .val (.int xd), .val (.int xe), .val (.ref b1), .val (.int (xe &&& (3 : Int32))), .val (.int (own_v0_80 xe)), .val (.int (own_v0_84_s0 xa xb xc xd xe)), .val (.int (own_f8 (own_v0_84_s0 xa xb xc xd xe)))] [(.long (own_f4 ig__193))])) ?_ (fun _ k => st222.trans k)
        refine own_go (T' := T222) (f' := (mkF m 214 #[.val (.int xa), .val (.int xb), .val (.int xc), .val (.int xd), .val (.int xe), .val (.ref b1), .val (.int (xe &&& (3 : Int32))), .val (.int (own_v0_80 xe)), .val (.int (own_v0_84_s0 xa xb xc xd xe)), .val (.int (own_f8 (own_v0_84_s0 xa xb xc xd xe)))] [(.long (0 : Int64)), (.long (own_f4 ig__193))])) ?_ (fun _ k => XS.lconst X222.here hx rfl (hb hby at_213) k)
        refine own_go (T' := T222) (f' := (mkF m 215 #[.val (.int xa), .val (.int xb), .val (.int xc), .val (.int xd), .val (.int xe), .val (.ref b1), .val (.int (xe &&& (3 : Int32))), .val (.int (own_v0_80 xe)), .val (.int (own_v0_84_s0 xa xb xc xd xe)), .val (.int (own_f8 (own_v0_84_s0 xa xb xc xd xe)))] [(.int (lcmpW (own_f4 ig__193) (0 : Int64)))])) ?_ (fun _ k => XS.lcmp X222.here hx rfl (hb hby at_214) rfl k)
        have hk215_223 : (lcmpW (own_f4 ig__193) (0 : Int64)) = (0 : Int32) := (own_t_ign0 P193_12 hc130_206)
        refine own_go (T' := T222) (f' := (mkF m 218 #[.val (.int xa), .val (.int xb), .val (.int xc), .val (.int xd), .val (.int xe), .val (.ref b1), .val (.int (xe &&& (3 : Int32))), .val (.int (own_v0_80 xe)), .val (.int (own_v0_84_s0 xa xb xc xd xe)), .val (.int (own_f8 (own_v0_84_s0 xa xb xc xd xe)))] [])) ?_ (fun _ k => XS.ifNo X222.here hx rfl (hb hby at_215) rfl ((if0 _ _).trans (teq hk215_223).2) k)
        refine own_go (T' := T222) (f' := (mkF m 219 #[.val (.int xa), .val (.int xb), .val (.int xc), .val (.int xd), .val (.int xe), .val (.ref b1), .val (.int (xe &&& (3 : Int32))), .val (.int (own_v0_80 xe)), .val (.int (own_v0_84_s0 xa xb xc xd xe)), .val (.int (own_f8 (own_v0_84_s0 xa xb xc xd xe)))] [(.int (1 : Int32))])) ?_ (fun _ k => XS.iconst X222.here hx rfl (hb hby at_218) k)
        refine own_go (T' := T222) (f' := (mkF m 223 #[.val (.int xa), .val (.int xb), .val (.int xc), .val (.int xd), .val (.int xe), .val (.ref b1), .val (.int (xe &&& (3 : Int32))), .val (.int (own_v0_80 xe)), .val (.int (own_v0_84_s0 xa xb xc xd xe)), .val (.int (own_f8 (own_v0_84_s0 xa xb xc xd xe)))] [(.int (1 : Int32))])) ?_ (fun _ k => XS.goto X222.here hx rfl (pc0 := 219) (pc' := 223) rfl (hb hby at_219) (by decide) (by decide) k)
        obtain ⟨fs224, hr224, hrun224, hended224, hW224, hsame224⟩ := X222.leave (v := some (.int (1 : Int32))) (fun h => by rw [Bd.returns] at h; cases h)
        refine ⟨_, ⟨_, hrun224, hended224, _, _, rfl, ?_, ⟨_, rfl⟩, hW224, hsame224.mono (by decide) (by decide)⟩, fun _ k => (own_retZ X222 hx Bd.returns (by decide) (hb hby at_223) hr224).trans k⟩
        show own_Q0 Z xa xb xc xd xe h0 n0 _ T222.heap _
        rw [e222]
        exact ⟨rfl, N222⟩
  · refine own_go (T' := T2) (f' := (mkF m 29 #[.val (.int xa), .val (.int xb), .val (.int xc), .val (.int xd), .val (.int xe), .val (.ref b1), .val (.int (xe &&& (3 : Int32))), .unset, .unset, .unset] [])) ?_ (fun _ k => XS.ifYes X2.here hx rfl (pc0 := 17) (pc' := 29) rfl (hb hby at_17) rfl ((if0 _ _).trans (flt hc17_11).2.2.2) (by decide) (by decide) k)
    refine own_go (T' := T2) (f' := (mkF m 31 #[.val (.int xa), .val (.int xb), .val (.int xc), .val (.int xd), .val (.int xe), .val (.ref b1), .val (.int (xe &&& (3 : Int32))), .unset, .unset, .unset] [(.int (xe &&& (3 : Int32)))])) ?_ (fun _ k => XS.iload X2.here hx rfl (hb hby at_29) rfl  k)
    refine own_go (T' := T2) (f' := (mkF m 32 #[.val (.int xa), .val (.int xb), .val (.int xc), .val (.int xd), .val (.int xe), .val (.ref b1), .val (.int (xe &&& (3 : Int32))), .unset, .unset, .unset] [(.int (1 : Int32)), (.int (xe &&& (3 : Int32)))])) ?_ (fun _ k => XS.iconst X2.here hx rfl (hb hby at_31) k)
    have hk32_225 : ¬ ((1 : Int32) < (xe &&& (3 : Int32))) := (own_k1 hc17_11)
    refine own_go (T' := T2) (f' := (mkF m 44 #[.val (.int xa), .val (.int xb), .val (.int xc), .val (.int xd), .val (.int xe), .val (.ref b1), .val (.int (xe &&& (3 : Int32))), .unset, .unset, .unset] [])) ?_ (fun _ k => XS.icmpYes X2.here hx rfl (pc0 := 32) (pc' := 44) rfl (hb hby at_32) rfl (flt hk32_225).2.2.2 (by decide) (by decide) k)
    refine own_go (T' := T2) (f' := (mkF m 46 #[.val (.int xa), .val (.int xb), .val (.int xc), .val (.int xd), .val (.int xe), .val (.ref b1), .val (.int (xe &&& (3 : Int32))), .unset, .unset, .unset] [(.int (xe &&& (3 : Int32)))])) ?_ (fun _ k => XS.iload X2.here hx rfl (hb hby at_44) rfl  k)
    refine own_go (T' := T2) (f' := (mkF m 47 #[.val (.int xa), .val (.int xb), .val (.int xc), .val (.int xd), .val (.int xe), .val (.ref b1), .val (.int (xe &&& (3 : Int32))), .unset, .unset, .unset] [(.int (2 : Int32)), (.int (xe &&& (3 : Int32)))])) ?_ (fun _ k => XS.iconst X2.here hx rfl (hb hby at_46) k)
    have hk47_226 : ¬ ((2 : Int32) < (xe &&& (3 : Int32))) := (own_k2 hk32_225)
    refine own_go (T' := T2) (f' := (mkF m 59 #[.val (.int xa), .val (.int xb), .val (.int xc), .val (.int xd), .val (.int xe), .val (.ref b1), .val (.int (xe &&& (3 : Int32))), .unset, .unset, .unset] [])) ?_ (fun _ k => XS.icmpYes X2.here hx rfl (pc0 := 47) (pc' := 59) rfl (hb hby at_47) rfl (flt hk47_226).2.2.2 (by decide) (by decide) k)
    refine own_go (T' := T2) (f' := (mkF m 61 #[.val (.int xa), .val (.int xb), .val (.int xc), .val (.int xd), .val (.int xe), .val (.ref b1), .val (.int (xe &&& (3 : Int32))), .unset, .unset, .unset] [(.ref b1)])) ?_ (fun _ k => XS.aload X2.here hx rfl (hb hby at_59) rfl rfl k)
    obtain ⟨cq227, kq227, qa227, qb227, qc227⟩ := isOf hZ rfl fa3
    obtain ⟨_, _, ⟨T227, L227, k227, n227⟩, -, X227, ⟨Lc227, hQ227, l227, y227, z227⟩, st227⟩ := X2.virtualBack hx (y := (⟨"com/example/monitorgen/monitorgen/trace/Instant", "clear", "()V"⟩ : MethodName)) (z := (⟨"com/example/monitorgen/monitorgen/trace/Instant", "clear", "()V"⟩ : MethodName)) hown (mvT hZ (hw _ (List.mem_of_getElem? (i := 19) rfl))) (mvT hZ (hw _ (List.mem_of_getElem? (i := 20) rfl))) (notFace_of_selects (args := #[]) (mvT hZ (hw _ (List.mem_of_getElem? (i := 22) rfl)))) (mvT hZ (hw _ (List.mem_of_getElem? (i := 22) rfl))) (mvT hZ (hw _ (List.mem_of_getElem? (i := 21) rfl))) (by decide) (backOf (W := 0) (own_rm9 l Z a0 hw [] b1 oe_2 oc_2 oo_2 os_2 (0 : Int32) (0 : Int64) (0 : Int64) [(0 : Int32), (0 : Int32), (0 : Int32), (0 : Int32)] [(0 : Int64), (0 : Int64), (0 : Int64), (0 : Int64)] [(0 : Int32), (0 : Int32), (0 : Int32), (0 : Int32)] [(0 : Int32), (0 : Int32), (0 : Int32), (0 : Int32), (0 : Int32), (0 : Int32), (0 : Int32), (0 : Int32), (0 : Int32), (0 : Int32), (0 : Int32), (0 : Int32), (0 : Int32), (0 : Int32), (0 : Int32), (0 : Int32)] 0 T2.heap n0 ZZ2 fa3 P2_14 P2_15 P2_16 P2_17 P2_18 P2_19 P2_20 P2_21 P2_22 P2_23 P2_24 g_b1 g_oe_2 g_oc_2 g_oo_2 g_os_2 P2_4 P2_5 P2_6 P2_7 P2_8 P2_9 P2_10 P2_11 P2_12 P2_13 (own_inv0) (by decide)) hZ (hw _ (List.mem_of_getElem? (i := 23) rfl)) (hw _ (List.mem_of_getElem? (i := 2) rfl)) (by decide) (by decide)) qa227 qc227 (g := (mkF m 61 #[.val (.int xa), .val (.int xb), .val (.int xc), .val (.int xd), .val (.int xe), .val (.ref b1), .val (.int (xe &&& (3 : Int32))), .unset, .unset, .unset] [(.ref b1)])) rfl (by rw [hml]; rfl) (Steps.refl _) (argsL := []) (rest := []) (lenOf own_pd0 rfl) rfl (by show 2 * 0 + _ ≤ _; exact Nat.le_of_eq rfl) (hb hby at_61) (fun _ _ => ⟨rfl, rfl, (by decide : 5 + 0 ≤ _), (by decide : 35 + 0 ≤ _)⟩)
    dsimp only [Pt.U, Pt.locs, Pt.cells, Pt.slots] at X227 l227 y227 z227 st227 hQ227
    subst y227 z227
    obtain ⟨rfl, N227q, K227, P227_0, P227_1, P227_2, P227_3, P227_4, P227_5, P227_6, P227_7⟩ := hQ227
    have fa228 := fa3.keep K227
    have fa236 := P2_21.keep K227 (ninS (Ne.symm P2_4) (ninS P2_10 nin0))
    have fa237 := P2_22.keep K227 (ninS (Ne.symm P2_5) (ninS P2_12 nin0))
    have fa238 := P2_23.keep K227 (ninS (Ne.symm P2_6) (ninS P2_13 nin0))
    have KK227 : Keep h0 T227.heap [] := KK2.trans K227 (allS (Or.inr sz_b1) (allS (Or.inr sz_os_2) all0))
    have ZZ227 : n0 ≤ T227.heap.size := Nat.le_trans ZZ2 K227.1
    have N227 : Fr n0 L227 := l227 ▸ Fr.app N2 N227q
    refine own_go (T' := T227) (f' := (mkF m 64 #[.val (.int xa), .val (.int xb), .val (.int xc), .val (.int xd), .val (.int xe), .val (.ref b1), .val (.int (xe &&& (3 : Int32))), .unset, .unset, .unset] [])) ?_ (fun _ k => st227.trans k)
    refine own_go (T' := T227) (f' := (mkF m 66 #[.val (.int xa), .val (.int xb), .val (.int xc), .val (.int xd), .val (.int xe), .val (.ref b1), .val (.int (xe &&& (3 : Int32))), .unset, .unset, .unset] [(.ref b1)])) ?_ (fun _ k => XS.aload X227.here hx rfl (hb hby at_64) rfl rfl k)
    obtain ⟨cq240, kq240, qa240, qb240, qc240⟩ := isOf hZ rfl fa228
    obtain ⟨_, _, ⟨T240, L240, k240, n240⟩, -, X240, ⟨Lc240, hQ240, l240, y240, z240⟩, st240⟩ := X227.virtualBack hx (y := (⟨"com/example/monitorgen/monitorgen/trace/Instant", "isEmpty", "()Z"⟩ : MethodName)) (z := (⟨"com/example/monitorgen/monitorgen/trace/Instant", "isEmpty", "()Z"⟩ : MethodName)) hown (mvT hZ (hw _ (List.mem_of_getElem? (i := 30) rfl))) (mvT hZ (hw _ (List.mem_of_getElem? (i := 31) rfl))) (notFace_of_selects (args := #[]) (mvT hZ (hw _ (List.mem_of_getElem? (i := 33) rfl)))) (mvT hZ (hw _ (List.mem_of_getElem? (i := 33) rfl))) (mvT hZ (hw _ (List.mem_of_getElem? (i := 32) rfl))) (by decide) (backOf (W := 0) (own_rm5 l Z a0 hw [] b1 (0 : Int64) (0 : Int64) T227.heap n0 ZZ227 P227_5 P227_6) hZ (hw _ (List.mem_of_getElem? (i := 34) rfl)) (hw _ (List.mem_of_getElem? (i := 2) rfl)) (by decide) (by decide)) qa240 qc240 (g := (mkF m 66 #[.val (.int xa), .val (.int xb), .val (.int xc), .val (.int xd), .val (.int xe), .val (.ref b1), .val (.int (xe &&& (3 : Int32))), .unset, .unset, .unset] [(.ref b1)])) rfl (by rw [hml]; rfl) (Steps.refl _) (argsL := []) (rest := []) (lenOf own_pd3 rfl) rfl (by show 2 * 0 + _ ≤ _; exact Nat.le_of_eq rfl) (hb hby at_66) (fun _ _ => ⟨rfl, rfl, (by decide : 5 + 0 ≤ _), (by decide : 35 + 0 ≤ _)⟩)
    dsimp only [Pt.U, Pt.locs, Pt.cells, Pt.slots] at X240 l240 y240 z240 st240 hQ240
    subst y240 z240
    obtain ⟨rfl, N240q, e240⟩ := hQ240
    have N240 : Fr n0 L240 := l240 ▸ Fr.app N227 N240q
    refine own_go (T' := T240) (f' := (mkF m 69 #[.val (.int xa), .val (.int xb), .val (.int xc), .val (.int xd), .val (.int xe), .val (.ref b1), .val (.int (xe &&& (3 : Int32))), .unset, .unset, .unset] [(.int (own_f5 (0 : Int64) (0 : Int64)))])) ?_ (fun _ k => st240.trans k)
    have hk69_241 : ¬ ((own_f5 (0 : Int64) (0 : Int64)) = (0 : Int32)) := (by decide)
    refine own_go (T' := T240) (f' := (mkF m 74 #[.val (.int xa), .val (.int xb), .val (.int xc), .val (.int xd), .val (.int xe), .val (.ref b1), .val (.int (xe &&& (3 : Int32))), .unset, .unset, .unset] [])) ?_ (fun _ k => XS.ifYes X240.here hx rfl (pc0 := 69) (pc' := 74) rfl (hb hby at_69) rfl ((if0 _ _).trans (feq hk69_241).2) (by decide) (by decide) k)
    refine own_go (T' := T240) (f' := (mkF m 76 #[.val (.int xa), .val (.int xb), .val (.int xc), .val (.int xd), .val (.int xe), .val (.ref b1), .val (.int (xe &&& (3 : Int32))), .unset, .unset, .unset] [(.int xe)])) ?_ (fun _ k => XS.iload X240.here hx rfl (hb hby at_74) rfl  k)
    refine own_go (T' := T240) (f' := (mkF m 77 #[.val (.int xa), .val (.int xb), .val (.int xc), .val (.int xd), .val (.int xe), .val (.ref b1), .val (.int (xe &&& (3 : Int32))), .unset, .unset, .unset] [(.int (2 : Int32)), (.int xe)])) ?_ (fun _ k => XS.iconst X240.here hx rfl (hb hby at_76) k)
    refine own_go (T' := T240) (f' := (mkF m 78 #[.val (.int xa), .val (.int xb), .val (.int xc), .val (.int xd), .val (.int xe), .val (.ref b1), .val (.int (xe &&& (3 : Int32))), .unset, .unset, .unset] [(.int ((xe.toUInt32 >>> ((2 : Int32) &&& 31).toUInt32).toInt32))])) ?_ (fun _ k => XS.iushr X240.here hx rfl (hb hby at_77) rfl k)
    refine own_go (T' := T240) (f' := (mkF m 79 #[.val (.int xa), .val (.int xb), .val (.int xc), .val (.int xd), .val (.int xe), .val (.ref b1), .val (.int (xe &&& (3 : Int32))), .unset, .unset, .unset] [(.int (3 : Int32)), (.int ((xe.toUInt32 >>> ((2 : Int32) &&& 31).toUInt32).toInt32))])) ?_ (fun _ k => XS.iconst X240.here hx rfl (hb hby at_78) k)
    refine own_go (T' := T240) (f' := (mkF m 80 #[.val (.int xa), .val (.int xb), .val (.int xc), .val (.int xd), .val (.int xe), .val (.ref b1), .val (.int (xe &&& (3 : Int32))), .unset, .unset, .unset] [(.int (((xe.toUInt32 >>> ((2 : Int32) &&& 31).toUInt32).toInt32) &&& (3 : Int32)))])) ?_ (fun _ k => XS.iand X240.here hx rfl (hb hby at_79) rfl k)
    refine own_go (T' := T240) (f' := (mkF m 82 #[.val (.int xa), .val (.int xb), .val (.int xc), .val (.int xd), .val (.int xe), .val (.ref b1), .val (.int (xe &&& (3 : Int32))), .val (.int (own_v0_80 xe)), .unset, .unset] [])) ?_ (fun _ k => XS.istore X240.here hx rfl (hb hby at_80) rfl (l' := #[.val (.int xa), .val (.int xb), .val (.int xc), .val (.int xd), .val (.int xe), .val (.ref b1), .val (.int (xe &&& (3 : Int32))), .val (.int (own_v0_80 xe)), .unset, .unset]) rfl k)
    refine own_go (T' := T240) (f' := (mkF m 84 #[.val (.int xa), .val (.int xb), .val (.int xc), .val (.int xd), .val (.int xe), .val (.ref b1), .val (.int (xe &&& (3 : Int32))), .val (.int (own_v0_80 xe)), .unset, .unset] [(.int (own_v0_80 xe))])) ?_ (fun _ k => XS.iload X240.here hx rfl (hb hby at_82) rfl  k)
    obtain ⟨_, ⟨T242, L242, rfl, X242, e242, N242⟩, mg242⟩ : own_Goes p.tables e below (fun uu => ∃ (T' : State) (L' : List Loc), uu = T'.setTop (mkF m 112 #[.val (.int xa), .val (.int xb), .val (.int xc), .val (.int xd), .val (.int xe), .val (.ref b1), .val (.int (xe &&& (3 : Int32))), .val (.int (own_v0_80 xe)), .unset, .unset] [(.int (own_v0_84_s0 xa xb xc xd xe))]) ∧ Stand p l e room_1 s m #[(.int xa), (.int xb), (.int xc), (.int xd), (.int xe)] below meth c T' L' 5 35 ∧ T'.heap = T227.heap ∧ Fr n0 L') T240 (mkF m 84 #[.val (.int xa), .val (.int xb), .val (.int xc), .val (.int xd), .val (.int xe), .val (.ref b1), .val (.int (xe &&& (3 : Int32))), .val (.int (own_v0_80 xe)), .unset, .unset] [(.int (own_v0_80 xe))]) := by
      by_cases hc84_243 : (own_v0_80 xe) = (0 : Int32)
      · refine own_go (T' := T240) (f' := (mkF m 87 #[.val (.int xa), .val (.int xb), .val (.int xc), .val (.int xd), .val (.int xe), .val (.ref b1), .val (.int (xe &&& (3 : Int32))), .val (.int (own_v0_80 xe)), .unset, .unset] [])) ?_ (fun _ k => XS.ifNo X240.here hx rfl (hb hby at_84) rfl ((if0 _ _).trans (teq hc84_243).2) k)
        refine own_go (T' := T240) (f' := (mkF m 88 #[.val (.int xa), .val (.int xb), .val (.int xc), .val (.int xd), .val (.int xe), .val (.ref b1), .val (.int (xe &&& (3 : Int32))), .val (.int (own_v0_80 xe)), .unset, .unset] [(.int xa)])) ?_ (fun _ k => XS.iloadN X240.here hx rfl (hb hby at_87) rfl  k)
        refine own_go (T' := T240) (f' := (mkF m 112 #[.val (.int xa), .val (.int xb), .val (.int xc), .val (.int xd), .val (.int xe), .val (.ref b1), .val (.int (xe &&& (3 : Int32))), .val (.int (own_v0_80 xe)), .unset, .unset] [(.int xa)])) ?_ (fun _ k => XS.goto X240.here hx rfl (pc0 := 88) (pc' := 112) rfl (hb hby at_88) (by decide) (by decide) k)
        have em244 : (own_v0_84_s0 xa xb xc xd xe) = xa := (if_pos hc84_243)
        exact ⟨_, ⟨T240, _, (by rw [em244]), X240, e240, N240⟩, fun _ k => k⟩
      · refine own_go (T' := T240) (f' := (mkF m 91 #[.val (.int xa), .val (.int xb), .val (.int xc), .val (.int xd), .val (.int xe), .val (.ref b1), .val (.int (xe &&& (3 : Int32))), .val (.int (own_v0_80 xe)), .unset, .unset] [])) ?_ (fun _ k => XS.ifYes X240.here hx rfl (pc0 := 84) (pc' := 91) rfl (hb hby at_84) rfl ((if0 _ _).trans (feq hc84_243).2) (by decide) (by decide) k)
        refine own_go (T' := T240) (f' := (mkF m 93 #[.val (.int xa), .val (.int xb), .val (.int xc), .val (.int xd), .val (.int xe), .val (.ref b1), .val (.int (xe &&& (3 : Int32))), .val (.int (own_v0_80 xe)), .unset, .unset] [(.int (own_v0_80 xe))])) ?_ (fun _ k => XS.iload X240.here hx rfl (hb hby at_91) rfl  k)
        refine own_go (T' := T240) (f' := (mkF m 94 #[.val (.int xa), .val (.int xb), .val (.int xc), .val (.int xd), .val (.int xe), .val (.ref b1), .val (.int (xe &&& (3 : Int32))), .val (.int (own_v0_80 xe)), .unset, .unset] [(.int (1 : Int32)), (.int (own_v0_80 xe))])) ?_ (fun _ k => XS.iconst X240.here hx rfl (hb hby at_93) k)
        by_cases hc94_245 : (own_v0_80 xe) = (1 : Int32)
        · refine own_go (T' := T240) (f' := (mkF m 97 #[.val (.int xa), .val (.int xb), .val (.int xc), .val (.int xd), .val (.int xe), .val (.ref b1), .val (.int (xe &&& (3 : Int32))), .val (.int (own_v0_80 xe)), .unset, .unset] [])) ?_ (fun _ k => XS.icmpNo X240.here hx rfl (hb hby at_94) rfl (teq hc94_245).2 k)
          refine own_go (T' := T240) (f' := (mkF m 98 #[.val (.int xa), .val (.int xb), .val (.int xc), .val (.int xd), .val (.int xe), .val (.ref b1), .val (.int (xe &&& (3 : Int32))), .val (.int (own_v0_80 xe)), .unset, .unset] [(.int xb)])) ?_ (fun _ k => XS.iloadN X240.here hx rfl (hb hby at_97) rfl  k)
          refine own_go (T' := T240) (f' := (mkF m 112 #[.val (.int xa), .val (.int xb), .val (.int xc), .val (.int xd), .val (.int xe), .val (.ref b1), .val (.int (xe &&& (3 : Int32))), .val (.int (own_v0_80 xe)), .unset, .unset] [(.int xb)])) ?_ (fun _ k => XS.goto X240.here hx rfl (pc0 := 98) (pc' := 112) rfl (hb hby at_98) (by decide) (by decide) k)
          have em246 : (own_v0_84_s0 xa xb xc xd xe) = xb := (Eq.trans (if_neg hc84_243) (if_pos hc94_245))
          exact ⟨_, ⟨T240, _, (by rw [em246]), X240, e240, N240⟩, fun _ k => k⟩
        · refine own_go (T' := T240) (f' := (mkF m 101 #[.val (.int xa), .val (.int xb), .val (.int xc), .val (.int xd), .val (.int xe), .val (.ref b1), .val (.int (xe &&& (3 : Int32))), .val (.int (own_v0_80 xe)), .unset, .unset] [])) ?_ (fun _ k => XS.icmpYes X240.here hx rfl (pc0 := 94) (pc' := 101) rfl (hb hby at_94) rfl (feq hc94_245).2 (by decide) (by decide) k)
          refine own_go (T' := T240) (f' := (mkF m 103 #[.val (.int xa), .val (.int xb), .val (.int xc), .val (.int xd), .val (.int xe), .val (.ref b1), .val (.int (xe &&& (3 : Int32))), .val (.int (own_v0_80 xe)), .unset, .unset] [(.int (own_v0_80 xe))])) ?_ (fun _ k => XS.iload X240.here hx rfl (hb hby at_101) rfl  k)
          refine own_go (T' := T240) (f' := (mkF m 104 #[.val (.int xa), .val (.int xb), .val (.int xc), .val (.int xd), .val (.int xe), .val (.ref b1), .val (.int (xe &&& (3 : Int32))), .val (.int (own_v0_80 xe)), .unset, .unset] [(.int (2 : Int32)), (.int (own_v0_80 xe))])) ?_ (fun _ k => XS.iconst X240.here hx rfl (hb hby at_103) k)
          by_cases hc104_247 : (own_v0_80 xe) = (2 : Int32)
          · refine own_go (T' := T240) (f' := (mkF m 107 #[.val (.int xa), .val (.int xb), .val (.int xc), .val (.int xd), .val (.int xe), .val (.ref b1), .val (.int (xe &&& (3 : Int32))), .val (.int (own_v0_80 xe)), .unset, .unset] [])) ?_ (fun _ k => XS.icmpNo X240.here hx rfl (hb hby at_104) rfl (teq hc104_247).2 k)
            refine own_go (T' := T240) (f' := (mkF m 108 #[.val (.int xa), .val (.int xb), .val (.int xc), .val (.int xd), .val (.int xe), .val (.ref b1), .val (.int (xe &&& (3 : Int32))), .val (.int (own_v0_80 xe)), .unset, .unset] [(.int xc)])) ?_ (fun _ k => XS.iloadN X240.here hx rfl (hb hby at_107) rfl  k)
            refine own_go (T' := T240) (f' := (mkF m 112 #[.val (.int xa), .val (.int xb), .val (.int xc), .val (.int xd), .val (.int xe), .val (.ref b1), .val (.int (xe &&& (3 : Int32))), .val (.int (own_v0_80 xe)), .unset, .unset] [(.int xc)])) ?_ (fun _ k => XS.goto X240.here hx rfl (pc0 := 108) (pc' := 112) rfl (hb hby at_108) (by decide) (by decide) k)
            have em248 : (own_v0_84_s0 xa xb xc xd xe) = xc := (Eq.trans (if_neg hc84_243) (Eq.trans (if_neg hc94_245) (if_pos hc104_247)))
            exact ⟨_, ⟨T240, _, (by rw [em248]), X240, e240, N240⟩, fun _ k => k⟩
          · refine own_go (T' := T240) (f' := (mkF m 111 #[.val (.int xa), .val (.int xb), .val (.int xc), .val (.int xd), .val (.int xe), .val (.ref b1), .val (.int (xe &&& (3 : Int32))), .val (.int (own_v0_80 xe)), .unset, .unset] [])) ?_ (fun _ k => XS.icmpYes X240.here hx rfl (pc0 := 104) (pc' := 111) rfl (hb hby at_104) rfl (feq hc104_247).2 (by decide) (by decide) k)
            refine own_go (T' := T240) (f' := (mkF m 112 #[.val (.int xa), .val (.int xb), .val (.int xc), .val (.int xd), .val (.int xe), .val (.ref b1), .val (.int (xe &&& (3 : Int32))), .val (.int (own_v0_80 xe)), .unset, .unset] [(.int xd)])) ?_ (fun _ k => XS.iloadN X240.here hx rfl (hb hby at_111) rfl  k)
            have em249 : (own_v0_84_s0 xa xb xc xd xe) = xd := (Eq.trans (if_neg hc84_243) (Eq.trans (if_neg hc94_245) (if_neg hc104_247)))
            exact ⟨_, ⟨T240, _, (by rw [em249]), X240, e240, N240⟩, fun _ k => k⟩
    refine own_go (T' := T242) (f' := (mkF m 112 #[.val (.int xa), .val (.int xb), .val (.int xc), .val (.int xd), .val (.int xe), .val (.ref b1), .val (.int (xe &&& (3 : Int32))), .val (.int (own_v0_80 xe)), .unset, .unset] [(.int (own_v0_84_s0 xa xb xc xd xe))])) ?_ (mg242)
    refine own_go (T' := T242) (f' := (mkF m 114 #[.val (.int xa), .val (.int xb), .val (.int xc), .val (.int xd), .val (.int xe), .val (.ref b1), .val (.int (xe &&& (3 : Int32))), .val (.int (own_v0_80 xe)), .val (.int (own_v0_84_s0 xa xb xc xd xe)), .unset] [])) ?_ (fun _ k => XS.istore X242.here hx rfl (hb hby at_112) rfl (l' := #[.val (.int xa), .val (.int xb), .val (.int xc), .val (.int xd), .val (.int xe), .val (.ref b1), .val (.int (xe &&& (3 : Int32))), .val (.int (own_v0_80 xe)), .val (.int (own_v0_84_s0 xa xb xc xd xe)), .unset]) rfl k)
    refine own_go (T' := T242) (f' := (mkF m 116 #[.val (.int xa), .val (.int xb), .val (.int xc), .val (.int xd), .val (.int xe), .val (.ref b1), .val (.int (xe &&& (3 : Int32))), .val (.int (own_v0_80 xe)), .val (.int (own_v0_84_s0 xa xb xc xd xe)), .unset] [(.int (own_v0_84_s0 xa xb xc xd xe))])) ?_ (fun _ k => XS.iload X242.here hx rfl (hb hby at_114) rfl  k)
    obtain ⟨_, _, ⟨T250, L250, k250, n250⟩, -, X250, ⟨Lc250, hQ250, l250, y250, z250⟩, st250⟩ := Jvm.LawKit.callS X242 hx (y := (⟨"com/example/monitorgen/monitorgen/trace/InstantClearPinLaw", "ev", "(I)I"⟩ : MethodName)) hown (mvT hZ (hw _ (List.mem_of_getElem? (i := 35) rfl))) (mvT hZ (hw _ (List.mem_of_getElem? (i := 36) rfl))) (mvT hZ (hw _ (List.mem_of_getElem? (i := 37) rfl))) (mvT hZ (hw _ (List.mem_of_getElem? (i := 38) rfl))) (by decide) (backOf (W := 0) (own_rm8 l Z a0 hw [] (own_v0_84_s0 xa xb xc xd xe) T227.heap n0 ZZ227) hZ (hw _ (List.mem_of_getElem? (i := 38) rfl)) (hw _ (List.mem_of_getElem? (i := 37) rfl)) (by decide) (by decide)) (g := (mkF m 116 #[.val (.int xa), .val (.int xb), .val (.int xc), .val (.int xd), .val (.int xe), .val (.ref b1), .val (.int (xe &&& (3 : Int32))), .val (.int (own_v0_80 xe)), .val (.int (own_v0_84_s0 xa xb xc xd xe)), .unset] [(.int (own_v0_84_s0 xa xb xc xd xe))])) rfl (by rw [hml]; rfl) (argsL := [(.int (own_v0_84_s0 xa xb xc xd xe))]) (rest := []) (lenOf own_pd1 rfl) rfl (by show 2 * 0 + _ ≤ _; exact Nat.le_of_eq rfl) (hb hby at_116) (fun _ _ => ⟨rfl, e242, (by decide : 5 + 0 ≤ _), (by decide : 35 + 0 ≤ _)⟩)
    dsimp only [Pt.U, Pt.locs, Pt.cells, Pt.slots] at X250 l250 y250 z250 st250 hQ250
    subst y250 z250
    obtain ⟨rfl, N250q, e250⟩ := hQ250
    have N250 : Fr n0 L250 := l250 ▸ Fr.app N242 N250q
    refine own_go (T' := T250) (f' := (mkF m 119 #[.val (.int xa), .val (.int xb), .val (.int xc), .val (.int xd), .val (.int xe), .val (.ref b1), .val (.int (xe &&& (3 : Int32))), .val (.int (own_v0_80 xe)), .val (.int (own_v0_84_s0 xa xb xc xd xe)), .unset] [(.int (own_f8 (own_v0_84_s0 xa xb xc xd xe)))])) ?_ (st250)
    refine own_go (T' := T250) (f' := (mkF m 121 #[.val (.int xa), .val (.int xb), .val (.int xc), .val (.int xd), .val (.int xe), .val (.ref b1), .val (.int (xe &&& (3 : Int32))), .val (.int (own_v0_80 xe)), .val (.int (own_v0_84_s0 xa xb xc xd xe)), .val (.int (own_f8 (own_v0_84_s0 xa xb xc xd xe)))] [])) ?_ (fun _ k => XS.istore X250.here hx rfl (hb hby at_119) rfl (l' := #[.val (.int xa), .val (.int xb), .val (.int xc), .val (.int xd), .val (.int xe), .val (.ref b1), .val (.int (xe &&& (3 : Int32))), .val (.int (own_v0_80 xe)), .val (.int (own_v0_84_s0 xa xb xc xd xe)), .val (.int (own_f8 (own_v0_84_s0 xa xb xc xd xe)))]) rfl k)
    refine own_go (T' := T250) (f' := (mkF m 123 #[.val (.int xa), .val (.int xb), .val (.int xc), .val (.int xd), .val (.int xe), .val (.ref b1), .val (.int (xe &&& (3 : Int32))), .val (.int (own_v0_80 xe)), .val (.int (own_v0_84_s0 xa xb xc xd xe)), .val (.int (own_f8 (own_v0_84_s0 xa xb xc xd xe)))] [(.ref b1)])) ?_ (fun _ k => XS.aload X250.here hx rfl (hb hby at_121) rfl rfl k)
    refine own_go (T' := T250) (f' := (mkF m 125 #[.val (.int xa), .val (.int xb), .val (.int xc), .val (.int xd), .val (.int xe), .val (.ref b1), .val (.int (xe &&& (3 : Int32))), .val (.int (own_v0_80 xe)), .val (.int (own_v0_84_s0 xa xb xc xd xe)), .val (.int (own_f8 (own_v0_84_s0 xa xb xc xd xe)))] [(.int (own_f8 (own_v0_84_s0 xa xb xc xd xe))), (.ref b1)])) ?_ (fun _ k => XS.iload X250.here hx rfl (hb hby at_123) rfl  k)
    obtain ⟨cq251, kq251, qa251, qb251, qc251⟩ := isOf hZ e250 fa228
    obtain ⟨_, _, ⟨T251, L251, k251, n251⟩, -, X251, ⟨Lc251, hQ251, l251, y251, z251⟩, st251⟩ := X250.virtualBack hx (y := (⟨"com/example/monitorgen/monitorgen/trace/Instant", "add", "(I)V"⟩ : MethodName)) (z := (⟨"com/example/monitorgen/monitorgen/trace/Instant", "add", "(I)V"⟩ : MethodName)) hown (mvT hZ (hw _ (List.mem_of_getElem? (i := 39) rfl))) (mvT hZ (hw _ (List.mem_of_getElem? (i := 40) rfl))) (notFace_of_selects (args := #[]) (mvT hZ (hw _ (List.mem_of_getElem? (i := 42) rfl)))) (mvT hZ (hw _ (List.mem_of_getElem? (i := 42) rfl))) (mvT hZ (hw _ (List.mem_of_getElem? (i := 41) rfl))) (by decide) (backOf (W := 0) (own_rm10 l Z a0 hw [] b1 (own_f8 (own_v0_84_s0 xa xb xc xd xe)) oe_2 oc_2 oo_2 os_2 (0 : Int32) (0 : Int64) (0 : Int64) [(0 : Int32), (0 : Int32), (0 : Int32), (0 : Int32)] [(0 : Int64), (0 : Int64), (0 : Int64), (0 : Int64)] [(0 : Int32), (0 : Int32), (0 : Int32), (0 : Int32)] [(0 : Int32), (0 : Int32), (0 : Int32), (0 : Int32), (0 : Int32), (0 : Int32), (0 : Int32), (0 : Int32), (0 : Int32), (0 : Int32), (0 : Int32), (0 : Int32), (0 : Int32), (0 : Int32), (0 : Int32), (0 : Int32)] 0 T227.heap n0 ZZ227 fa228 P227_0 P227_1 P227_2 P227_3 P227_4 P227_5 P227_6 fa236 fa237 fa238 P227_7 g_b1 g_oe_2 g_oc_2 g_oo_2 g_os_2 P2_4 P2_5 P2_6 P2_7 P2_8 P2_9 P2_10 P2_11 P2_12 P2_13 (own_inv1 _) (by decide)) hZ (hw _ (List.mem_of_getElem? (i := 43) rfl)) (hw _ (List.mem_of_getElem? (i := 2) rfl)) (by decide) (by decide)) qa251 qc251 (g := (mkF m 125 #[.val (.int xa), .val (.int xb), .val (.int xc), .val (.int xd), .val (.int xe), .val (.ref b1), .val (.int (xe &&& (3 : Int32))), .val (.int (own_v0_80 xe)), .val (.int (own_v0_84_s0 xa xb xc xd xe)), .val (.int (own_f8 (own_v0_84_s0 xa xb xc xd xe)))] [(.int (own_f8 (own_v0_84_s0 xa xb xc xd xe))), (.ref b1)])) rfl (by rw [hml]; rfl) (Steps.refl _) (argsL := [(.int (own_f8 (own_v0_84_s0 xa xb xc xd xe)))]) (rest := []) (lenOf own_pd2 rfl) rfl (by show 2 * 0 + _ ≤ _; exact Nat.le_of_eq rfl) (hb hby at_125) (fun _ _ => ⟨rfl, e250, (by decide : 5 + 0 ≤ _), (by decide : 35 + 0 ≤ _)⟩)
    dsimp only [Pt.U, Pt.locs, Pt.cells, Pt.slots] at X251 l251 y251 z251 st251 hQ251
    subst y251 z251
    obtain ⟨nd__251, tt__251, ig__251, LE__251, LC__251, LO__251, LS__251, rfl, N251q, K251, P251_0, P251_1, P251_2, P251_3, P251_4, P251_5, P251_6, P251_7, P251_8, P251_9, P251_10, P251_11, P251_12⟩ := hQ251
    have fa252 := fa228.keep K251
    have KK251 : Keep h0 T251.heap [] := KK227.trans K251 (allS (Or.inr sz_b1) (allS (Or.inr sz_oe_2) (allS (Or.inr sz_oc_2) (allS (Or.inr sz_oo_2) (allS (Or.inr sz_os_2) all0)))))
    have ZZ251 : n0 ≤ T251.heap.size := Nat.le_trans ZZ227 K251.1
    have N251 : Fr n0 L251 := l251 ▸ Fr.app N250 N251q
    refine own_go (T' := T251) (f' := (mkF m 128 #[.val (.int xa), .val (.int xb), .val (.int xc), .val (.int xd), .val (.int xe), .val (.ref b1), .val (.int (xe &&& (3 : Int32))), .val (.int (own_v0_80 xe)), .val (.int (own_v0_84_s0 xa xb xc xd xe)), .val (.int (own_f8 (own_v0_84_s0 xa xb xc xd xe)))] [])) ?_ (fun _ k => st251.trans k)
    refine own_go (T' := T251) (f' := (mkF m 130 #[.val (.int xa), .val (.int xb), .val (.int xc), .val (.int xd), .val (.int xe), .val (.ref b1), .val (.int (xe &&& (3 : Int32))), .val (.int (own_v0_80 xe)), .val (.int (own_v0_84_s0 xa xb xc xd xe)), .val (.int (own_f8 (own_v0_84_s0 xa xb xc xd xe)))] [(.int (own_f8 (own_v0_84_s0 xa xb xc xd xe)))])) ?_ (fun _ k => XS.iload X251.here hx rfl (hb hby at_128) rfl  k)
    by_cases hc130_264 : (own_f8 (own_v0_84_s0 xa xb xc xd xe)) < (0 : Int32)
    · refine own_go (T' := T251) (f' := (mkF m 133 #[.val (.int xa), .val (.int xb), .val (.int xc), .val (.int xd), .val (.int xe), .val (.ref b1), .val (.int (xe &&& (3 : Int32))), .val (.int (own_v0_80 xe)), .val (.int (own_v0_84_s0 xa xb xc xd xe)), .val (.int (own_f8 (own_v0_84_s0 xa xb xc xd xe)))] [])) ?_ (fun _ k => XS.ifNo X251.here hx rfl (hb hby at_130) rfl ((if0 _ _).trans (tlt hc130_264).2.1) k)
      refine own_go (T' := T251) (f' := (mkF m 135 #[.val (.int xa), .val (.int xb), .val (.int xc), .val (.int xd), .val (.int xe), .val (.ref b1), .val (.int (xe &&& (3 : Int32))), .val (.int (own_v0_80 xe)), .val (.int (own_v0_84_s0 xa xb xc xd xe)), .val (.int (own_f8 (own_v0_84_s0 xa xb xc xd xe)))] [(.ref b1)])) ?_ (fun _ k => XS.aload X251.here hx rfl (hb hby at_133) rfl rfl k)
      obtain ⟨cq265, kq265, qa265, qb265, qc265⟩ := isOf hZ rfl fa252
      obtain ⟨_, _, ⟨T265, L265, k265, n265⟩, -, X265, ⟨Lc265, hQ265, l265, y265, z265⟩, st265⟩ := X251.virtualBack hx (y := (⟨"com/example/monitorgen/monitorgen/trace/Instant", "ignored", "()J"⟩ : MethodName)) (z := (⟨"com/example/monitorgen/monitorgen/trace/Instant", "ignored", "()J"⟩ : MethodName)) hown (mvT hZ (hw _ (List.mem_of_getElem? (i := 65) rfl))) (mvT hZ (hw _ (List.mem_of_getElem? (i := 66) rfl))) (notFace_of_selects (args := #[]) (mvT hZ (hw _ (List.mem_of_getElem? (i := 68) rfl)))) (mvT hZ (hw _ (List.mem_of_getElem? (i := 68) rfl))) (mvT hZ (hw _ (List.mem_of_getElem? (i := 67) rfl))) (by decide) (backOf (W := 0) (own_rm4 l Z a0 hw [] b1 ig__251 T251.heap n0 ZZ251 P251_6) hZ (hw _ (List.mem_of_getElem? (i := 69) rfl)) (hw _ (List.mem_of_getElem? (i := 2) rfl)) (by decide) (by decide)) qa265 qc265 (g := (mkF m 135 #[.val (.int xa), .val (.int xb), .val (.int xc), .val (.int xd), .val (.int xe), .val (.ref b1), .val (.int (xe &&& (3 : Int32))), .val (.int (own_v0_80 xe)), .val (.int (own_v0_84_s0 xa xb xc xd xe)), .val (.int (own_f8 (own_v0_84_s0 xa xb xc xd xe)))] [(.ref b1)])) rfl (by rw [hml]; rfl) (Steps.refl _) (argsL := []) (rest := []) (lenOf own_pd4 rfl) rfl (by show 2 * 0 + _ ≤ _; exact Nat.le_of_eq rfl) (hb hby at_135) (fun _ _ => ⟨rfl, rfl, (by decide : 5 + 0 ≤ _), (by decide : 35 + 0 ≤ _)⟩)
      dsimp only [Pt.U, Pt.locs, Pt.cells, Pt.slots] at X265 l265 y265 z265 st265 hQ265
      subst y265 z265
      obtain ⟨rfl, N265q, e265⟩ := hQ265
      have N265 : Fr n0 L265 := l265 ▸ Fr.app N251 N265q
      refine own_go (T' := T265) (f' := (mkF m 138 #[.val (.int xa), .val (.int xb), .val (.int xc), .val (.int xd), .val (.int xe), .val (.ref b1), .val (.int (xe &&& (3 : Int32))), .val (.int (own_v0_80 xe)), .val (.int (own_v0_84_s0 xa xb xc xd xe)), .val (.int (own_f8 (own_v0_84_s0 xa xb xc xd xe)))] [(.long (own_f4 ig__251))])) ?_ (fun _ k => st265.trans k)
      refine own_go (T' := T265) (f' := (mkF m 139 #[.val (.int xa), .val (.int xb), .val (.int xc), .val (.int xd), .val (.int xe), .val (.ref b1), .val (.int (xe &&& (3 : Int32))), .val (.int (own_v0_80 xe)), .val (.int (own_v0_84_s0 xa xb xc xd xe)), .val (.int (own_f8 (own_v0_84_s0 xa xb xc xd xe)))] [(.long (1 : Int64)), (.long (own_f4 ig__251))])) ?_ (fun _ k => XS.lconst X265.here hx rfl (hb hby at_138) k)
      refine own_go (T' := T265) (f' := (mkF m 140 #[.val (.int xa), .val (.int xb), .val (.int xc), .val (.int xd), .val (.int xe), .val (.ref b1), .val (.int (xe &&& (3 : Int32))), .val (.int (own_v0_80 xe)), .val (.int (own_v0_84_s0 xa xb xc xd xe)), .val (.int (own_f8 (own_v0_84_s0 xa xb xc xd xe)))] [(.int (lcmpW (own_f4 ig__251) (1 : Int64)))])) ?_ (fun _ k => XS.lcmp X265.here hx rfl (hb hby at_139) rfl k)
      have hk140_266 : (lcmpW (own_f4 ig__251) (1 : Int64)) = (0 : Int32) := (own_t_ign P251_12 hc130_264)
      refine own_go (T' := T265) (f' := (mkF m 143 #[.val (.int xa), .val (.int xb), .val (.int xc), .val (.int xd), .val (.int xe), .val (.ref b1), .val (.int (xe &&& (3 : Int32))), .val (.int (own_v0_80 xe)), .val (.int (own_v0_84_s0 xa xb xc xd xe)), .val (.int (own_f8 (own_v0_84_s0 xa xb xc xd xe)))] [])) ?_ (fun _ k => XS.ifNo X265.here hx rfl (hb hby at_140) rfl ((if0 _ _).trans (teq hk140_266).2) k)
      refine own_go (T' := T265) (f' := (mkF m 145 #[.val (.int xa), .val (.int xb), .val (.int xc), .val (.int xd), .val (.int xe), .val (.ref b1), .val (.int (xe &&& (3 : Int32))), .val (.int (own_v0_80 xe)), .val (.int (own_v0_84_s0 xa xb xc xd xe)), .val (.int (own_f8 (own_v0_84_s0 xa xb xc xd xe)))] [(.ref b1)])) ?_ (fun _ k => XS.aload X265.here hx rfl (hb hby at_143) rfl rfl k)
      obtain ⟨cq267, kq267, qa267, qb267, qc267⟩ := isOf hZ e265 fa252
      obtain ⟨_, _, ⟨T267, L267, k267, n267⟩, -, X267, ⟨Lc267, hQ267, l267, y267, z267⟩, st267⟩ := X265.virtualBack hx (y := (⟨"com/example/monitorgen/monitorgen/trace/Instant", "events", "()J"⟩ : MethodName)) (z := (⟨"com/example/monitorgen/monitorgen/trace/Instant", "events", "()J"⟩ : MethodName)) hown (mvT hZ (hw _ (List.mem_of_getElem? (i := 60) rfl))) (mvT hZ (hw _ (List.mem_of_getElem? (i := 61) rfl))) (notFace_of_selects (args := #[]) (mvT hZ (hw _ (List.mem_of_getElem? (i := 63) rfl)))) (mvT hZ (hw _ (List.mem_of_getElem? (i := 63) rfl))) (mvT hZ (hw _ (List.mem_of_getElem? (i := 62) rfl))) (by decide) (backOf (W := 0) (own_rm3 l Z a0 hw [] b1 tt__251 T251.heap n0 ZZ251 P251_5) hZ (hw _ (List.mem_of_getElem? (i := 64) rfl)) (hw _ (List.mem_of_getElem? (i := 2) rfl)) (by decide) (by decide)) qa267 qc267 (g := (mkF m 145 #[.val (.int xa), .val (.int xb), .val (.int xc), .val (.int xd), .val (.int xe), .val (.ref b1), .val (.int (xe &&& (3 : Int32))), .val (.int (own_v0_80 xe)), .val (.int (own_v0_84_s0 xa xb xc xd xe)), .val (.int (own_f8 (own_v0_84_s0 xa xb xc xd xe)))] [(.ref b1)])) rfl (by rw [hml]; rfl) (Steps.refl _) (argsL := []) (rest := []) (lenOf own_pd4 rfl) rfl (by show 2 * 0 + _ ≤ _; exact Nat.le_of_eq rfl) (hb hby at_145) (fun _ _ => ⟨rfl, e265, (by decide : 5 + 0 ≤ _), (by decide : 35 + 0 ≤ _)⟩)
      dsimp only [Pt.U, Pt.locs, Pt.cells, Pt.slots] at X267 l267 y267 z267 st267 hQ267
      subst y267 z267
      obtain ⟨rfl, N267q, e267⟩ := hQ267
      have N267 : Fr n0 L267 := l267 ▸ Fr.app N265 N267q
      refine own_go (T' := T267) (f' := (mkF m 148 #[.val (.int xa), .val (.int xb), .val (.int xc), .val (.int xd), .val (.int xe), .val (.ref b1), .val (.int (xe &&& (3 : Int32))), .val (.int (own_v0_80 xe)), .val (.int (own_v0_84_s0 xa xb xc xd xe)), .val (.int (own_f8 (own_v0_84_s0 xa xb xc xd xe)))] [(.long (own_f3 tt__251))])) ?_ (fun _ k => st267.trans k)
      refine own_go (T' := T267) (f' := (mkF m 149 #[.val (.int xa), .val (.int xb), .val (.int xc), .val (.int xd), .val (.int xe), .val (.ref b1), .val (.int (xe &&& (3 : Int32))), .val (.int (own_v0_80 xe)), .val (.int (own_v0_84_s0 xa xb xc xd xe)), .val (.int (own_f8 (own_v0_84_s0 xa xb xc xd xe)))] [(.long (0 : Int64)), (.long (own_f3 tt__251))])) ?_ (fun _ k => XS.lconst X267.here hx rfl (hb hby at_148) k)
      refine own_go (T' := T267) (f' := (mkF m 150 #[.val (.int xa), .val (.int xb), .val (.int xc), .val (.int xd), .val (.int xe), .val (.ref b1), .val (.int (xe &&& (3 : Int32))), .val (.int (own_v0_80 xe)), .val (.int (own_v0_84_s0 xa xb xc xd xe)), .val (.int (own_f8 (own_v0_84_s0 xa xb xc xd xe)))] [(.int (lcmpW (own_f3 tt__251) (0 : Int64)))])) ?_ (fun _ k => XS.lcmp X267.here hx rfl (hb hby at_149) rfl k)
      have hk150_268 : (lcmpW (own_f3 tt__251) (0 : Int64)) = (0 : Int32) := (own_t_tot0 P251_12 hc130_264)
      refine own_go (T' := T267) (f' := (mkF m 153 #[.val (.int xa), .val (.int xb), .val (.int xc), .val (.int xd), .val (.int xe), .val (.ref b1), .val (.int (xe &&& (3 : Int32))), .val (.int (own_v0_80 xe)), .val (.int (own_v0_84_s0 xa xb xc xd xe)), .val (.int (own_f8 (own_v0_84_s0 xa xb xc xd xe)))] [])) ?_ (fun _ k => XS.ifNo X267.here hx rfl (hb hby at_150) rfl ((if0 _ _).trans (teq hk150_268).2) k)
      refine own_go (T' := T267) (f' := (mkF m 155 #[.val (.int xa), .val (.int xb), .val (.int xc), .val (.int xd), .val (.int xe), .val (.ref b1), .val (.int (xe &&& (3 : Int32))), .val (.int (own_v0_80 xe)), .val (.int (own_v0_84_s0 xa xb xc xd xe)), .val (.int (own_f8 (own_v0_84_s0 xa xb xc xd xe)))] [(.ref b1)])) ?_ (fun _ k => XS.aload X267.here hx rfl (hb hby at_153) rfl rfl k)
      obtain ⟨cq269, kq269, qa269, qb269, qc269⟩ := isOf hZ e267 fa252
      obtain ⟨_, _, ⟨T269, L269, k269, n269⟩, -, X269, ⟨Lc269, hQ269, l269, y269, z269⟩, st269⟩ := X267.virtualBack hx (y := (⟨"com/example/monitorgen/monitorgen/trace/Instant", "distinct", "()I"⟩ : MethodName)) (z := (⟨"com/example/monitorgen/monitorgen/trace/Instant", "distinct", "()I"⟩ : MethodName)) hown (mvT hZ (hw _ (List.mem_of_getElem? (i := 45) rfl))) (mvT hZ (hw _ (List.mem_of_getElem? (i := 46) rfl))) (notFace_of_selects (args := #[]) (mvT hZ (hw _ (List.mem_of_getElem? (i := 48) rfl)))) (mvT hZ (hw _ (List.mem_of_getElem? (i := 48) rfl))) (mvT hZ (hw _ (List.mem_of_getElem? (i := 47) rfl))) (by decide) (backOf (W := 0) (own_rm2 l Z a0 hw [] b1 nd__251 T251.heap n0 ZZ251 P251_4) hZ (hw _ (List.mem_of_getElem? (i := 49) rfl)) (hw _ (List.mem_of_getElem? (i := 2) rfl)) (by decide) (by decide)) qa269 qc269 (g := (mkF m 155 #[.val (.int xa), .val (.int xb), .val (.int xc), .val (.int xd), .val (.int xe), .val (.ref b1), .val (.int (xe &&& (3 : Int32))), .val (.int (own_v0_80 xe)), .val (.int (own_v0_84_s0 xa xb xc xd xe)), .val (.int (own_f8 (own_v0_84_s0 xa xb xc xd xe)))] [(.ref b1)])) rfl (by rw [hml]; rfl) (Steps.refl _) (argsL := []) (rest := []) (lenOf own_pd5 rfl) rfl (by show 2 * 0 + _ ≤ _; exact Nat.le_of_eq rfl) (hb hby at_155) (fun _ _ => ⟨rfl, e267, (by decide : 5 + 0 ≤ _), (by decide : 35 + 0 ≤ _)⟩)
      dsimp only [Pt.U, Pt.locs, Pt.cells, Pt.slots] at X269 l269 y269 z269 st269 hQ269
      subst y269 z269
      obtain ⟨rfl, N269q, e269⟩ := hQ269
      have N269 : Fr n0 L269 := l269 ▸ Fr.app N267 N269q
      refine own_go (T' := T269) (f' := (mkF m 158 #[.val (.int xa), .val (.int xb), .val (.int xc), .val (.int xd), .val (.int xe), .val (.ref b1), .val (.int (xe &&& (3 : Int32))), .val (.int (own_v0_80 xe)), .val (.int (own_v0_84_s0 xa xb xc xd xe)), .val (.int (own_f8 (own_v0_84_s0 xa xb xc xd xe)))] [(.int (own_f2 nd__251))])) ?_ (fun _ k => st269.trans k)
      have hk158_270 : (own_f2 nd__251) = (0 : Int32) := (own_t_nd0 P251_12 hc130_264)
      refine own_go (T' := T269) (f' := (mkF m 161 #[.val (.int xa), .val (.int xb), .val (.int xc), .val (.int xd), .val (.int xe), .val (.ref b1), .val (.int (xe &&& (3 : Int32))), .val (.int (own_v0_80 xe)), .val (.int (own_v0_84_s0 xa xb xc xd xe)), .val (.int (own_f8 (own_v0_84_s0 xa xb xc xd xe)))] [])) ?_ (fun _ k => XS.ifNo X269.here hx rfl (hb hby at_158) rfl ((if0 _ _).trans (teq hk158_270).2) k)
      refine own_go (T' := T269) (f' := (mkF m 162 #[.val (.int xa), .val (.int xb), .val (.int xc), .val (.int xd), .val (.int xe), .val (.ref b1), .val (.int (xe &&& (3 : Int32))), .val (.int (own_v0_80 xe)), .val (.int (own_v0_84_s0 xa xb xc xd xe)), .val (.int (own_f8 (own_v0_84_s0 xa xb xc xd xe)))] [(.int (1 : Int32))])) ?_ (fun _ k => XS.iconst X269.here hx rfl (hb hby at_161) k)
      refine own_go (T' := T269) (f' := (mkF m 166 #[.val (.int xa), .val (.int xb), .val (.int xc), .val (.int xd), .val (.int xe), .val (.ref b1), .val (.int (xe &&& (3 : Int32))), .val (.int (own_v0_80 xe)), .val (.int (own_v0_84_s0 xa xb xc xd xe)), .val (.int (own_f8 (own_v0_84_s0 xa xb xc xd xe)))] [(.int (1 : Int32))])) ?_ (fun _ k => XS.goto X269.here hx rfl (pc0 := 162) (pc' := 166) rfl (hb hby at_162) (by decide) (by decide) k)
      obtain ⟨fs271, hr271, hrun271, hended271, hW271, hsame271⟩ := X269.leave (v := some (.int (1 : Int32))) (fun h => by rw [Bd.returns] at h; cases h)
      refine ⟨_, ⟨_, hrun271, hended271, _, _, rfl, ?_, ⟨_, rfl⟩, hW271, hsame271.mono (by decide) (by decide)⟩, fun _ k => (own_retZ X269 hx Bd.returns (by decide) (hb hby at_166) hr271).trans k⟩
      show own_Q0 Z xa xb xc xd xe h0 n0 _ T269.heap _
      rw [e269]
      exact ⟨rfl, N269⟩
    · refine own_go (T' := T251) (f' := (mkF m 167 #[.val (.int xa), .val (.int xb), .val (.int xc), .val (.int xd), .val (.int xe), .val (.ref b1), .val (.int (xe &&& (3 : Int32))), .val (.int (own_v0_80 xe)), .val (.int (own_v0_84_s0 xa xb xc xd xe)), .val (.int (own_f8 (own_v0_84_s0 xa xb xc xd xe)))] [])) ?_ (fun _ k => XS.ifYes X251.here hx rfl (pc0 := 130) (pc' := 167) rfl (hb hby at_130) rfl ((if0 _ _).trans (flt hc130_264).2.1) (by decide) (by decide) k)
      refine own_go (T' := T251) (f' := (mkF m 169 #[.val (.int xa), .val (.int xb), .val (.int xc), .val (.int xd), .val (.int xe), .val (.ref b1), .val (.int (xe &&& (3 : Int32))), .val (.int (own_v0_80 xe)), .val (.int (own_v0_84_s0 xa xb xc xd xe)), .val (.int (own_f8 (own_v0_84_s0 xa xb xc xd xe)))] [(.ref b1)])) ?_ (fun _ k => XS.aload X251.here hx rfl (hb hby at_167) rfl rfl k)
      obtain ⟨cq272, kq272, qa272, qb272, qc272⟩ := isOf hZ rfl fa252
      obtain ⟨_, _, ⟨T272, L272, k272, n272⟩, -, X272, ⟨Lc272, hQ272, l272, y272, z272⟩, st272⟩ := X251.virtualBack hx (y := (⟨"com/example/monitorgen/monitorgen/trace/Instant", "distinct", "()I"⟩ : MethodName)) (z := (⟨"com/example/monitorgen/monitorgen/trace/Instant", "distinct", "()I"⟩ : MethodName)) hown (mvT hZ (hw _ (List.mem_of_getElem? (i := 45) rfl))) (mvT hZ (hw _ (List.mem_of_getElem? (i := 46) rfl))) (notFace_of_selects (args := #[]) (mvT hZ (hw _ (List.mem_of_getElem? (i := 48) rfl)))) (mvT hZ (hw _ (List.mem_of_getElem? (i := 48) rfl))) (mvT hZ (hw _ (List.mem_of_getElem? (i := 47) rfl))) (by decide) (backOf (W := 0) (own_rm2 l Z a0 hw [] b1 nd__251 T251.heap n0 ZZ251 P251_4) hZ (hw _ (List.mem_of_getElem? (i := 49) rfl)) (hw _ (List.mem_of_getElem? (i := 2) rfl)) (by decide) (by decide)) qa272 qc272 (g := (mkF m 169 #[.val (.int xa), .val (.int xb), .val (.int xc), .val (.int xd), .val (.int xe), .val (.ref b1), .val (.int (xe &&& (3 : Int32))), .val (.int (own_v0_80 xe)), .val (.int (own_v0_84_s0 xa xb xc xd xe)), .val (.int (own_f8 (own_v0_84_s0 xa xb xc xd xe)))] [(.ref b1)])) rfl (by rw [hml]; rfl) (Steps.refl _) (argsL := []) (rest := []) (lenOf own_pd5 rfl) rfl (by show 2 * 0 + _ ≤ _; exact Nat.le_of_eq rfl) (hb hby at_169) (fun _ _ => ⟨rfl, rfl, (by decide : 5 + 0 ≤ _), (by decide : 35 + 0 ≤ _)⟩)
      dsimp only [Pt.U, Pt.locs, Pt.cells, Pt.slots] at X272 l272 y272 z272 st272 hQ272
      subst y272 z272
      obtain ⟨rfl, N272q, e272⟩ := hQ272
      have N272 : Fr n0 L272 := l272 ▸ Fr.app N251 N272q
      refine own_go (T' := T272) (f' := (mkF m 172 #[.val (.int xa), .val (.int xb), .val (.int xc), .val (.int xd), .val (.int xe), .val (.ref b1), .val (.int (xe &&& (3 : Int32))), .val (.int (own_v0_80 xe)), .val (.int (own_v0_84_s0 xa xb xc xd xe)), .val (.int (own_f8 (own_v0_84_s0 xa xb xc xd xe)))] [(.int (own_f2 nd__251))])) ?_ (fun _ k => st272.trans k)
      refine own_go (T' := T272) (f' := (mkF m 173 #[.val (.int xa), .val (.int xb), .val (.int xc), .val (.int xd), .val (.int xe), .val (.ref b1), .val (.int (xe &&& (3 : Int32))), .val (.int (own_v0_80 xe)), .val (.int (own_v0_84_s0 xa xb xc xd xe)), .val (.int (own_f8 (own_v0_84_s0 xa xb xc xd xe)))] [(.int (1 : Int32)), (.int (own_f2 nd__251))])) ?_ (fun _ k => XS.iconst X272.here hx rfl (hb hby at_172) k)
      have hk173_273 : (own_f2 nd__251) = (1 : Int32) := (own_t_nd1 P251_12 hc130_264)
      refine own_go (T' := T272) (f' := (mkF m 176 #[.val (.int xa), .val (.int xb), .val (.int xc), .val (.int xd), .val (.int xe), .val (.ref b1), .val (.int (xe &&& (3 : Int32))), .val (.int (own_v0_80 xe)), .val (.int (own_v0_84_s0 xa xb xc xd xe)), .val (.int (own_f8 (own_v0_84_s0 xa xb xc xd xe)))] [])) ?_ (fun _ k => XS.icmpNo X272.here hx rfl (hb hby at_173) rfl (teq hk173_273).2 k)
      refine own_go (T' := T272) (f' := (mkF m 178 #[.val (.int xa), .val (.int xb), .val (.int xc), .val (.int xd), .val (.int xe), .val (.ref b1), .val (.int (xe &&& (3 : Int32))), .val (.int (own_v0_80 xe)), .val (.int (own_v0_84_s0 xa xb xc xd xe)), .val (.int (own_f8 (own_v0_84_s0 xa xb xc xd xe)))] [(.ref b1)])) ?_ (fun _ k => XS.aload X272.here hx rfl (hb hby at_176) rfl rfl k)
      refine own_go (T' := T272) (f' := (mkF m 179 #[.val (.int xa), .val (.int xb), .val (.int xc), .val (.int xd), .val (.int xe), .val (.ref b1), .val (.int (xe &&& (3 : Int32))), .val (.int (own_v0_80 xe)), .val (.int (own_v0_84_s0 xa xb xc xd xe)), .val (.int (own_f8 (own_v0_84_s0 xa xb xc xd xe)))] [(.int (0 : Int32)), (.ref b1)])) ?_ (fun _ k => XS.iconst X272.here hx rfl (hb hby at_178) k)
      obtain ⟨cq274, kq274, qa274, qb274, qc274⟩ := isOf hZ e272 fa252
      obtain ⟨_, _, ⟨T274, L274, k274, n274⟩, -, X274, ⟨Lc274, hQ274, l274, y274, z274⟩, st274⟩ := X272.virtualBack hx (y := (⟨"com/example/monitorgen/monitorgen/trace/Instant", "event", "(I)I"⟩ : MethodName)) (z := (⟨"com/example/monitorgen/monitorgen/trace/Instant", "event", "(I)I"⟩ : MethodName)) hown (mvT hZ (hw _ (List.mem_of_getElem? (i := 50) rfl))) (mvT hZ (hw _ (List.mem_of_getElem? (i := 51) rfl))) (notFace_of_selects (args := #[]) (mvT hZ (hw _ (List.mem_of_getElem? (i := 53) rfl)))) (mvT hZ (hw _ (List.mem_of_getElem? (i := 53) rfl))) (mvT hZ (hw _ (List.mem_of_getElem? (i := 52) rfl))) (by decide) (backOf (W := 0) (own_rm6 l Z a0 hw [] b1 oe_2 LE__251 T251.heap n0 ZZ251 P251_0 P251_7) hZ (hw _ (List.mem_of_getElem? (i := 54) rfl)) (hw _ (List.mem_of_getElem? (i := 2) rfl)) (by decide) (by decide)) qa274 qc274 (g := (mkF m 179 #[.val (.int xa), .val (.int xb), .val (.int xc), .val (.int xd), .val (.int xe), .val (.ref b1), .val (.int (xe &&& (3 : Int32))), .val (.int (own_v0_80 xe)), .val (.int (own_v0_84_s0 xa xb xc xd xe)), .val (.int (own_f8 (own_v0_84_s0 xa xb xc xd xe)))] [(.int (0 : Int32)), (.ref b1)])) rfl (by rw [hml]; rfl) (Steps.refl _) (argsL := [(.int (0 : Int32))]) (rest := []) (lenOf own_pd1 rfl) rfl (by show 2 * 0 + _ ≤ _; exact Nat.le_of_eq rfl) (hb hby at_179) (fun _ _ => ⟨rfl, e272, (by decide : 5 + 0 ≤ _), (by decide : 35 + 0 ≤ _)⟩)
      dsimp only [Pt.U, Pt.locs, Pt.cells, Pt.slots] at X274 l274 y274 z274 st274 hQ274
      subst y274 z274
      obtain ⟨rfl, N274q, e274⟩ := hQ274
      have N274 : Fr n0 L274 := l274 ▸ Fr.app N272 N274q
      refine own_go (T' := T274) (f' := (mkF m 182 #[.val (.int xa), .val (.int xb), .val (.int xc), .val (.int xd), .val (.int xe), .val (.ref b1), .val (.int (xe &&& (3 : Int32))), .val (.int (own_v0_80 xe)), .val (.int (own_v0_84_s0 xa xb xc xd xe)), .val (.int (own_f8 (own_v0_84_s0 xa xb xc xd xe)))] [(.int (own_f6 LE__251))])) ?_ (fun _ k => st274.trans k)
      refine own_go (T' := T274) (f' := (mkF m 184 #[.val (.int xa), .val (.int xb), .val (.int xc), .val (.int xd), .val (.int xe), .val (.ref b1), .val (.int (xe &&& (3 : Int32))), .val (.int (own_v0_80 xe)), .val (.int (own_v0_84_s0 xa xb xc xd xe)), .val (.int (own_f8 (own_v0_84_s0 xa xb xc xd xe)))] [(.int (own_f8 (own_v0_84_s0 xa xb xc xd xe))), (.int (own_f6 LE__251))])) ?_ (fun _ k => XS.iload X274.here hx rfl (hb hby at_182) rfl  k)
      have hk184_275 : (own_f6 LE__251) = (own_f8 (own_v0_84_s0 xa xb xc xd xe)) := (own_t_ev P251_12 hc130_264)
      refine own_go (T' := T274) (f' := (mkF m 187 #[.val (.int xa), .val (.int xb), .val (.int xc), .val (.int xd), .val (.int xe), .val (.ref b1), .val (.int (xe &&& (3 : Int32))), .val (.int (own_v0_80 xe)), .val (.int (own_v0_84_s0 xa xb xc xd xe)), .val (.int (own_f8 (own_v0_84_s0 xa xb xc xd xe)))] [])) ?_ (fun _ k => XS.icmpNo X274.here hx rfl (hb hby at_184) rfl (teq hk184_275).2 k)
      refine own_go (T' := T274) (f' := (mkF m 189 #[.val (.int xa), .val (.int xb), .val (.int xc), .val (.int xd), .val (.int xe), .val (.ref b1), .val (.int (xe &&& (3 : Int32))), .val (.int (own_v0_80 xe)), .val (.int (own_v0_84_s0 xa xb xc xd xe)), .val (.int (own_f8 (own_v0_84_s0 xa xb xc xd xe)))] [(.ref b1)])) ?_ (fun _ k => XS.aload X274.here hx rfl (hb hby at_187) rfl rfl k)
      refine own_go (T' := T274) (f' := (mkF m 190 #[.val (.int xa), .val (.int xb), .val (.int xc), .val (.int xd), .val (.int xe), .val (.ref b1), .val (.int (xe &&& (3 : Int32))), .val (.int (own_v0_80 xe)), .val (.int (own_v0_84_s0 xa xb xc xd xe)), .val (.int (own_f8 (own_v0_84_s0 xa xb xc xd xe)))] [(.int (0 : Int32)), (.ref b1)])) ?_ (fun _ k => XS.iconst X274.here hx rfl (hb hby at_189) k)
      obtain ⟨cq276, kq276, qa276, qb276, qc276⟩ := isOf hZ e274 fa252
      obtain ⟨_, _, ⟨T276, L276, k276, n276⟩, -, X276, ⟨Lc276, hQ276, l276, y276, z276⟩, st276⟩ := X274.virtualBack hx (y := (⟨"com/example/monitorgen/monitorgen/trace/Instant", "count", "(I)J"⟩ : MethodName)) (z := (⟨"com/example/monitorgen/monitorgen/trace/Instant", "count", "(I)J"⟩ : MethodName)) hown (mvT hZ (hw _ (List.mem_of_getElem? (i := 55) rfl))) (mvT hZ (hw _ (List.mem_of_getElem? (i := 56) rfl))) (notFace_of_selects (args := #[]) (mvT hZ (hw _ (List.mem_of_getElem? (i := 58) rfl)))) (mvT hZ (hw _ (List.mem_of_getElem? (i := 58) rfl))) (mvT hZ (hw _ (List.mem_of_getElem? (i := 57) rfl))) (by decide) (backOf (W := 0) (own_rm7 l Z a0 hw [] b1 oc_2 LC__251 T251.heap n0 ZZ251 P251_1 P251_8) hZ (hw _ (List.mem_of_getElem? (i := 59) rfl)) (hw _ (List.mem_of_getElem? (i := 2) rfl)) (by decide) (by decide)) qa276 qc276 (g := (mkF m 190 #[.val (.int xa), .val (.int xb), .val (.int xc), .val (.int xd), .val (.int xe), .val (.ref b1), .val (.int (xe &&& (3 : Int32))), .val (.int (own_v0_80 xe)), .val (.int (own_v0_84_s0 xa xb xc xd xe)), .val (.int (own_f8 (own_v0_84_s0 xa xb xc xd xe)))] [(.int (0 : Int32)), (.ref b1)])) rfl (by rw [hml]; rfl) (Steps.refl _) (argsL := [(.int (0 : Int32))]) (rest := []) (lenOf own_pd6 rfl) rfl (by show 2 * 0 + _ ≤ _; exact Nat.le_of_eq rfl) (hb hby at_190) (fun _ _ => ⟨rfl, e274, (by decide : 5 + 0 ≤ _), (by decide : 35 + 0 ≤ _)⟩)
      dsimp only [Pt.U, Pt.locs, Pt.cells, Pt.slots] at X276 l276 y276 z276 st276 hQ276
      subst y276 z276
      obtain ⟨rfl, N276q, e276⟩ := hQ276
      have N276 : Fr n0 L276 := l276 ▸ Fr.app N274 N276q
      refine own_go (T' := T276) (f' := (mkF m 193 #[.val (.int xa), .val (.int xb), .val (.int xc), .val (.int xd), .val (.int xe), .val (.ref b1), .val (.int (xe &&& (3 : Int32))), .val (.int (own_v0_80 xe)), .val (.int (own_v0_84_s0 xa xb xc xd xe)), .val (.int (own_f8 (own_v0_84_s0 xa xb xc xd xe)))] [(.long (own_f7 LC__251))])) ?_ (fun _ k => st276.trans k)
      refine own_go (T' := T276) (f' := (mkF m 194 #[.val (.int xa), .val (.int xb), .val (.int xc), .val (.int xd), .val (.int xe), .val (.ref b1), .val (.int (xe &&& (3 : Int32))), .val (.int (own_v0_80 xe)), .val (.int (own_v0_84_s0 xa xb xc xd xe)), .val (.int (own_f8 (own_v0_84_s0 xa xb xc xd xe)))] [(.long (1 : Int64)), (.long (own_f7 LC__251))])) ?_ (fun _ k => XS.lconst X276.here hx rfl (hb hby at_193) k)
      refine own_go (T' := T276) (f' := (mkF m 195 #[.val (.int xa), .val (.int xb), .val (.int xc), .val (.int xd), .val (.int xe), .val (.ref b1), .val (.int (xe &&& (3 : Int32))), .val (.int (own_v0_80 xe)), .val (.int (own_v0_84_s0 xa xb xc xd xe)), .val (.int (own_f8 (own_v0_84_s0 xa xb xc xd xe)))] [(.int (lcmpW (own_f7 LC__251) (1 : Int64)))])) ?_ (fun _ k => XS.lcmp X276.here hx rfl (hb hby at_194) rfl k)
      have hk195_277 : (lcmpW (own_f7 LC__251) (1 : Int64)) = (0 : Int32) := (own_t_cnt P251_12 hc130_264)
      refine own_go (T' := T276) (f' := (mkF m 198 #[.val (.int xa), .val (.int xb), .val (.int xc), .val (.int xd), .val (.int xe), .val (.ref b1), .val (.int (xe &&& (3 : Int32))), .val (.int (own_v0_80 xe)), .val (.int (own_v0_84_s0 xa xb xc xd xe)), .val (.int (own_f8 (own_v0_84_s0 xa xb xc xd xe)))] [])) ?_ (fun _ k => XS.ifNo X276.here hx rfl (hb hby at_195) rfl ((if0 _ _).trans (teq hk195_277).2) k)
      refine own_go (T' := T276) (f' := (mkF m 200 #[.val (.int xa), .val (.int xb), .val (.int xc), .val (.int xd), .val (.int xe), .val (.ref b1), .val (.int (xe &&& (3 : Int32))), .val (.int (own_v0_80 xe)), .val (.int (own_v0_84_s0 xa xb xc xd xe)), .val (.int (own_f8 (own_v0_84_s0 xa xb xc xd xe)))] [(.ref b1)])) ?_ (fun _ k => XS.aload X276.here hx rfl (hb hby at_198) rfl rfl k)
      obtain ⟨cq278, kq278, qa278, qb278, qc278⟩ := isOf hZ e276 fa252
      obtain ⟨_, _, ⟨T278, L278, k278, n278⟩, -, X278, ⟨Lc278, hQ278, l278, y278, z278⟩, st278⟩ := X276.virtualBack hx (y := (⟨"com/example/monitorgen/monitorgen/trace/Instant", "events", "()J"⟩ : MethodName)) (z := (⟨"com/example/monitorgen/monitorgen/trace/Instant", "events", "()J"⟩ : MethodName)) hown (mvT hZ (hw _ (List.mem_of_getElem? (i := 60) rfl))) (mvT hZ (hw _ (List.mem_of_getElem? (i := 61) rfl))) (notFace_of_selects (args := #[]) (mvT hZ (hw _ (List.mem_of_getElem? (i := 63) rfl)))) (mvT hZ (hw _ (List.mem_of_getElem? (i := 63) rfl))) (mvT hZ (hw _ (List.mem_of_getElem? (i := 62) rfl))) (by decide) (backOf (W := 0) (own_rm3 l Z a0 hw [] b1 tt__251 T251.heap n0 ZZ251 P251_5) hZ (hw _ (List.mem_of_getElem? (i := 64) rfl)) (hw _ (List.mem_of_getElem? (i := 2) rfl)) (by decide) (by decide)) qa278 qc278 (g := (mkF m 200 #[.val (.int xa), .val (.int xb), .val (.int xc), .val (.int xd), .val (.int xe), .val (.ref b1), .val (.int (xe &&& (3 : Int32))), .val (.int (own_v0_80 xe)), .val (.int (own_v0_84_s0 xa xb xc xd xe)), .val (.int (own_f8 (own_v0_84_s0 xa xb xc xd xe)))] [(.ref b1)])) rfl (by rw [hml]; rfl) (Steps.refl _) (argsL := []) (rest := []) (lenOf own_pd4 rfl) rfl (by show 2 * 0 + _ ≤ _; exact Nat.le_of_eq rfl) (hb hby at_200) (fun _ _ => ⟨rfl, e276, (by decide : 5 + 0 ≤ _), (by decide : 35 + 0 ≤ _)⟩)
      dsimp only [Pt.U, Pt.locs, Pt.cells, Pt.slots] at X278 l278 y278 z278 st278 hQ278
      subst y278 z278
      obtain ⟨rfl, N278q, e278⟩ := hQ278
      have N278 : Fr n0 L278 := l278 ▸ Fr.app N276 N278q
      refine own_go (T' := T278) (f' := (mkF m 203 #[.val (.int xa), .val (.int xb), .val (.int xc), .val (.int xd), .val (.int xe), .val (.ref b1), .val (.int (xe &&& (3 : Int32))), .val (.int (own_v0_80 xe)), .val (.int (own_v0_84_s0 xa xb xc xd xe)), .val (.int (own_f8 (own_v0_84_s0 xa xb xc xd xe)))] [(.long (own_f3 tt__251))])) ?_ (fun _ k => st278.trans k)
      refine own_go (T' := T278) (f' := (mkF m 204 #[.val (.int xa), .val (.int xb), .val (.int xc), .val (.int xd), .val (.int xe), .val (.ref b1), .val (.int (xe &&& (3 : Int32))), .val (.int (own_v0_80 xe)), .val (.int (own_v0_84_s0 xa xb xc xd xe)), .val (.int (own_f8 (own_v0_84_s0 xa xb xc xd xe)))] [(.long (1 : Int64)), (.long (own_f3 tt__251))])) ?_ (fun _ k => XS.lconst X278.here hx rfl (hb hby at_203) k)
      refine own_go (T' := T278) (f' := (mkF m 205 #[.val (.int xa), .val (.int xb), .val (.int xc), .val (.int xd), .val (.int xe), .val (.ref b1), .val (.int (xe &&& (3 : Int32))), .val (.int (own_v0_80 xe)), .val (.int (own_v0_84_s0 xa xb xc xd xe)), .val (.int (own_f8 (own_v0_84_s0 xa xb xc xd xe)))] [(.int (lcmpW (own_f3 tt__251) (1 : Int64)))])) ?_ (fun _ k => XS.lcmp X278.here hx rfl (hb hby at_204) rfl k)
      have hk205_279 : (lcmpW (own_f3 tt__251) (1 : Int64)) = (0 : Int32) := (own_t_tot1 P251_12 hc130_264)
      refine own_go (T' := T278) (f' := (mkF m 208 #[.val (.int xa), .val (.int xb), .val (.int xc), .val (.int xd), .val (.int xe), .val (.ref b1), .val (.int (xe &&& (3 : Int32))), .val (.int (own_v0_80 xe)), .val (.int (own_v0_84_s0 xa xb xc xd xe)), .val (.int (own_f8 (own_v0_84_s0 xa xb xc xd xe)))] [])) ?_ (fun _ k => XS.ifNo X278.here hx rfl (hb hby at_205) rfl ((if0 _ _).trans (teq hk205_279).2) k)
      refine own_go (T' := T278) (f' := (mkF m 210 #[.val (.int xa), .val (.int xb), .val (.int xc), .val (.int xd), .val (.int xe), .val (.ref b1), .val (.int (xe &&& (3 : Int32))), .val (.int (own_v0_80 xe)), .val (.int (own_v0_84_s0 xa xb xc xd xe)), .val (.int (own_f8 (own_v0_84_s0 xa xb xc xd xe)))] [(.ref b1)])) ?_ (fun _ k => XS.aload X278.here hx rfl (hb hby at_208) rfl rfl k)
      obtain ⟨cq280, kq280, qa280, qb280, qc280⟩ := isOf hZ e278 fa252
      obtain ⟨_, _, ⟨T280, L280, k280, n280⟩, -, X280, ⟨Lc280, hQ280, l280, y280, z280⟩, st280⟩ := X278.virtualBack hx (y := (⟨"com/example/monitorgen/monitorgen/trace/Instant", "ignored", "()J"⟩ : MethodName)) (z := (⟨"com/example/monitorgen/monitorgen/trace/Instant", "ignored", "()J"⟩ : MethodName)) hown (mvT hZ (hw _ (List.mem_of_getElem? (i := 65) rfl))) (mvT hZ (hw _ (List.mem_of_getElem? (i := 66) rfl))) (notFace_of_selects (args := #[]) (mvT hZ (hw _ (List.mem_of_getElem? (i := 68) rfl)))) (mvT hZ (hw _ (List.mem_of_getElem? (i := 68) rfl))) (mvT hZ (hw _ (List.mem_of_getElem? (i := 67) rfl))) (by decide) (backOf (W := 0) (own_rm4 l Z a0 hw [] b1 ig__251 T251.heap n0 ZZ251 P251_6) hZ (hw _ (List.mem_of_getElem? (i := 69) rfl)) (hw _ (List.mem_of_getElem? (i := 2) rfl)) (by decide) (by decide)) qa280 qc280 (g := (mkF m 210 #[.val (.int xa), .val (.int xb), .val (.int xc), .val (.int xd), .val (.int xe), .val (.ref b1), .val (.int (xe &&& (3 : Int32))), .val (.int (own_v0_80 xe)), .val (.int (own_v0_84_s0 xa xb xc xd xe)), .val (.int (own_f8 (own_v0_84_s0 xa xb xc xd xe)))] [(.ref b1)])) rfl (by rw [hml]; rfl) (Steps.refl _) (argsL := []) (rest := []) (lenOf own_pd4 rfl) rfl (by show 2 * 0 + _ ≤ _; exact Nat.le_of_eq rfl) (hb hby at_210) (fun _ _ => ⟨rfl, e278, (by decide : 5 + 0 ≤ _), (by decide : 35 + 0 ≤ _)⟩)
      dsimp only [Pt.U, Pt.locs, Pt.cells, Pt.slots] at X280 l280 y280 z280 st280 hQ280
      subst y280 z280
      obtain ⟨rfl, N280q, e280⟩ := hQ280
      have N280 : Fr n0 L280 := l280 ▸ Fr.app N278 N280q
      refine own_go (T' := T280) (f' := (mkF m 213 #[.val (.int xa), .val (.int xb), .val (.int xc), .val (.int xd), .val (.int xe), .val (.ref b1), .val (.int (xe &&& (3 : Int32))), .val (.int (own_v0_80 xe)), .val (.int (own_v0_84_s0 xa xb xc xd xe)), .val (.int (own_f8 (own_v0_84_s0 xa xb xc xd xe)))] [(.long (own_f4 ig__251))])) ?_ (fun _ k => st280.trans k)
      refine own_go (T' := T280) (f' := (mkF m 214 #[.val (.int xa), .val (.int xb), .val (.int xc), .val (.int xd), .val (.int xe), .val (.ref b1), .val (.int (xe &&& (3 : Int32))), .val (.int (own_v0_80 xe)), .val (.int (own_v0_84_s0 xa xb xc xd xe)), .val (.int (own_f8 (own_v0_84_s0 xa xb xc xd xe)))] [(.long (0 : Int64)), (.long (own_f4 ig__251))])) ?_ (fun _ k => XS.lconst X280.here hx rfl (hb hby at_213) k)
      refine own_go (T' := T280) (f' := (mkF m 215 #[.val (.int xa), .val (.int xb), .val (.int xc), .val (.int xd), .val (.int xe), .val (.ref b1), .val (.int (xe &&& (3 : Int32))), .val (.int (own_v0_80 xe)), .val (.int (own_v0_84_s0 xa xb xc xd xe)), .val (.int (own_f8 (own_v0_84_s0 xa xb xc xd xe)))] [(.int (lcmpW (own_f4 ig__251) (0 : Int64)))])) ?_ (fun _ k => XS.lcmp X280.here hx rfl (hb hby at_214) rfl k)
      have hk215_281 : (lcmpW (own_f4 ig__251) (0 : Int64)) = (0 : Int32) := (own_t_ign0 P251_12 hc130_264)
      refine own_go (T' := T280) (f' := (mkF m 218 #[.val (.int xa), .val (.int xb), .val (.int xc), .val (.int xd), .val (.int xe), .val (.ref b1), .val (.int (xe &&& (3 : Int32))), .val (.int (own_v0_80 xe)), .val (.int (own_v0_84_s0 xa xb xc xd xe)), .val (.int (own_f8 (own_v0_84_s0 xa xb xc xd xe)))] [])) ?_ (fun _ k => XS.ifNo X280.here hx rfl (hb hby at_215) rfl ((if0 _ _).trans (teq hk215_281).2) k)
      refine own_go (T' := T280) (f' := (mkF m 219 #[.val (.int xa), .val (.int xb), .val (.int xc), .val (.int xd), .val (.int xe), .val (.ref b1), .val (.int (xe &&& (3 : Int32))), .val (.int (own_v0_80 xe)), .val (.int (own_v0_84_s0 xa xb xc xd xe)), .val (.int (own_f8 (own_v0_84_s0 xa xb xc xd xe)))] [(.int (1 : Int32))])) ?_ (fun _ k => XS.iconst X280.here hx rfl (hb hby at_218) k)
      refine own_go (T' := T280) (f' := (mkF m 223 #[.val (.int xa), .val (.int xb), .val (.int xc), .val (.int xd), .val (.int xe), .val (.ref b1), .val (.int (xe &&& (3 : Int32))), .val (.int (own_v0_80 xe)), .val (.int (own_v0_84_s0 xa xb xc xd xe)), .val (.int (own_f8 (own_v0_84_s0 xa xb xc xd xe)))] [(.int (1 : Int32))])) ?_ (fun _ k => XS.goto X280.here hx rfl (pc0 := 219) (pc' := 223) rfl (hb hby at_219) (by decide) (by decide) k)
      obtain ⟨fs282, hr282, hrun282, hended282, hW282, hsame282⟩ := X280.leave (v := some (.int (1 : Int32))) (fun h => by rw [Bd.returns] at h; cases h)
      refine ⟨_, ⟨_, hrun282, hended282, _, _, rfl, ?_, ⟨_, rfl⟩, hW282, hsame282.mono (by decide) (by decide)⟩, fun _ k => (own_retZ X280 hx Bd.returns (by decide) (hb hby at_223) hr282).trans k⟩
      show own_Q0 Z xa xb xc xd xe h0 n0 _ T280.heap _
      rw [e280]
      exact ⟨rfl, N280⟩
set_option maxRecDepth 65536 in
set_option maxHeartbeats 40000000 in
theorem comes_1 {Post : Tables → Env → Array Value → State → Outcome → State → Prop} (hpost : ∀ tb e args s v u, (limb_1_1.after args s (.returned v) u = true ∧ limb_1_2.after args s (.returned v) u = true ∧ True) → FrameEnd s (.returned v) u (Jvm.fieldLocs frame_1_writes args s ++ Jvm.arrayLocs frame_1_arrays args s ++ Jvm.staticLocs frame_1_statics s) 24 192 → Post tb e args s (.returned v) u) :
    ArmFor flags0 classFile x code maxLocals ret World_1 tables_1 room_1 Calls_1 rest_1 Pre_1 Post := by
  intro l hfl _ _ p e ha hc hk s m args below hf hA hF happ hP
  obtain ⟨hcalls, hrest, hpre⟩ := hP
  obtain ⟨-, -, -, hnamed, -, -, -, hat⟩ := (Spec.applies_iff hf).mp happ
  obtain ⟨hg, hn⟩ := and_e (Cond.before_iff.mp (show (Jvm.Cond.and given_1 narrow_1).before args s = true from hpre))
  obtain ⟨gg1, gg2⟩ := and_e hg
  obtain ⟨gg3, gg4⟩ := and_e gg2
  obtain ⟨gg5, gg6⟩ := and_e gg4
  obtain ⟨gg7, gg8⟩ := and_e gg6
  obtain ⟨gg9, gg10⟩ := and_e gg8
  obtain ⟨w0, w1, w2, w3, w4, rfl⟩ : ∃ w0 w1 w2 w3 w4 : Value, args = #[w0, w1, w2, w3, w4] := by
    have hs : args.size = 5 := by simpa [Cond.value, given_1] using gg1
    obtain ⟨L⟩ := args
    match L, hs with
    | [w0, w1, w2, w3, w4], _ => exact ⟨w0, w1, w2, w3, w4, rfl⟩
  have hw := fun d (hd : d ∈ tables_1) => atoms_spec (ws := Jvm.Cond.code x code maxLocals ret :: tables_1) hat d (List.mem_cons_of_mem _ hd)
  have hfit : Fit s := fun {y c} hc i hi => by
    obtain ⟨ha, rfl⟩ := Array.getElem?_eq_some_iff.mp hc
    have q := List.all_eq_true.mp ((Array.all_eq_true_iff_forall_mem.mp hF) _ (Array.getElem_mem ha)) i (List.mem_range.mpr hi)
    simpa [Array.getElem?_eq_getElem hi] using q
  obtain ⟨i0, ei0⟩ := is_v gg3
  obtain rfl : w0 = (.int i0) := Option.some.inj ei0
  obtain ⟨i1, ei1⟩ := is_v gg5
  obtain rfl : w1 = (.int i1) := Option.some.inj ei1
  obtain ⟨i2, ei2⟩ := is_v gg7
  obtain rfl : w2 = (.int i2) := Option.some.inj ei2
  obtain ⟨i3, ei3⟩ := is_v gg9
  obtain rfl : w3 = (.int i3) := Option.some.inj ei3
  obtain ⟨i4, ei4⟩ := is_v gg10
  obtain rfl : w4 = (.int i4) := Option.some.inj ei4
  obtain ⟨n, o, h1, h2, h3, _, L, rfl, ⟨rv, N⟩, hq⟩ := own_rm0 l s _ hw tables_1 i0 i1 i2 i3 i4 s.heap s.heap.size (Nat.le_refl _) p e ha hc hk s m _ below hf ((Spec.applies_iff_loose hf).mp happ).1 ⟨rfl, State.Warmed39.refl s, rfl⟩ trivial
  rw [show (1 : Int32) = 1 from rfl] at rv
  subst rv
  refine ⟨n, _, h1, h2, h3, hpost _ _ _ _ _ _ ⟨Cond.after_iff.mpr rfl, Cond.after_iff.mpr (eq_i res_at (Term.int_eval (1)) rfl), trivial⟩ ⟨hq.1, hq.2.1, (hq.2.2.sift fun y hy => Or.inr (N y hy)).mono (by decide) (by decide)⟩⟩
theorem main_1_1 : Claimed_1_1 := comes_1 fun _ _ _ _ _ _ h hF => ⟨h.1, hF⟩
theorem main_1_2 : Claimed_1_2 := comes_1 fun _ _ _ _ _ _ h hF => ⟨h.2.1, hF⟩
end Jvm.Pilot.@@N@@
namespace Jvm.Pilot.@@N@@
open Jvm Jvm.ClassFile Sem Op Lib Jvm.Free Jvm.Stand Jvm.Pilot.@@N@@.Jvm.D
/-! MADE BY PROGRAM (witnessworld.py) out of the Statement's table words and the real class files: 11 classes; the members and pool entries that the words name. The judged class is class 1, her method 2. -/
namespace start1
open Jvm.ClassFile
def u (s : String) : CpInfo := .utf8 (stringToUtf16 s)
/-- a pool by its gaps: so many unusable entries, then the entry; so many at the end -/
def gap : Nat → List CpInfo → List CpInfo
  | 0, r => r
  | n + 1, r => .unusable :: gap n r
def poolList (es : List (Nat × CpInfo)) (last : Nat) : List CpInfo := es.foldr (fun e r => gap e.1 (e.2 :: r)) (gap last [])
def pool (es : List (Nat × CpInfo)) (last : Nat) : Array CpInfo := ⟨poolList es last⟩
def fileOf (pool : Array CpInfo) (this : Nat) (attrs : Array Attribute := #[]) (ms : Array MethodInfo := #[]) (fl : Nat := 33) (sup : Nat := 0) (ifs : Array Nat := #[]) (fds : Array FieldInfo := #[]) : ClassFile where
  minorVersion := 0
  majorVersion := 65
  constantPool := pool
  accessFlags := fl
  thisClass := this
  superClass := sup
  interfaces := ifs
  fields := fds
  methods := ms
  attributes := attrs
def plain (name : String) (sup : Option ClassId) : Class where
  name := name
  kind := .ordinary
  loader := none
  accessFlags := 33
  super := sup
  interfaces := #[]
  cf := none
  fields := #[]
  methods := #[]
  instanceTypes := #[]
  staticTypes := #[]
  resolved := #[]
  callSites := []
  init := .initialized
  statics := none
  mirror := none

def pool0 : Array CpInfo := pool [(5, u "<init>"), (0, u "()V"), (1, .class_ 10), (1, u "java/lang/Object")] 113

def k0c0 : Code := { maxStack := 0, maxLocals := 1, code := object_method_1_code, exceptionTable := #[], attributes := #[] }
def k0m0 : Method := { name := "<init>", desc := "()V", sig := { parameters := [], returnType := none }, accessFlags := 1, code := some k0c0 }
/-- java/lang/Object -/
def k0 : Class := { plain "java/lang/Object" none with
  accessFlags := 33
  interfaces := #[]
  cf := some (fileOf pool0 8 #[] #[{ accessFlags := 1, nameIndex := 5, descriptorIndex := 6, attributes := #[] }] 33 0 #[] #[])
  fields := #[]
  methods := #[k0m0]
  instanceTypes := #[]
  staticTypes := #[]
  resolved := Array.replicate 124 none
  statics := none }

def pool1 : Array CpInfo := pool [(2, .class_ 4), (0, .nameAndType 5 6), (0, u "java/lang/Object"), (0, u "<init>"), (0, u "()V"), (0, .class_ 8), (0, u "com/example/monitorgen/monitorgen/trace/Instant"), (0, .methodref 7 3), (0, .methodref 11 12), (0, .class_ 13), (0, .nameAndType 14 15), (0, u "com/example/monitorgen/monitorgen/trace/InstantClearPinLaw"), (0, u "ev"), (0, u "(I)I"), (0, .methodref 7 17), (0, .nameAndType 18 19), (0, u "add"), (0, u "(I)V"), (0, .methodref 7 21), (0, .nameAndType 22 6), (0, u "clear"), (0, .methodref 7 24), (0, .nameAndType 25 26), (0, u "isEmpty"), (0, u "()Z"), (0, .methodref 7 28), (0, .nameAndType 29 30), (0, u "ignored"), (0, u "()J"), (0, .methodref 7 32), (0, .nameAndType 33 30), (0, u "events"), (0, .methodref 7 35), (0, .nameAndType 36 37), (0, u "distinct"), (0, u "()I"), (0, .methodref 7 39), (0, .nameAndType 40 15), (0, u "event"), (0, .methodref 7 42), (0, .nameAndType 43 44), (0, u "count"), (0, u "(I)J"), (3, u "law"), (0, u "(IIIII)Z")] 2

def k1m0 : Method := { name := "<init>", desc := "()V", sig := { parameters := [], returnType := none }, accessFlags := 1, code := none }
def k1c1 : Code := { maxStack := 1, maxLocals := 1, code := method_2_code, exceptionTable := #[], attributes := #[] }
def k1m1 : Method := { name := "ev", desc := "(I)I", sig := { parameters := [.int], returnType := some .int }, accessFlags := 10, code := some k1c1 }
def k1c2 : Code := { maxStack := 4, maxLocals := 10, code := code, exceptionTable := #[], attributes := #[] }
def k1m2 : Method := { name := "law", desc := "(IIIII)Z", sig := { parameters := [.int, .int, .int, .int, .int], returnType := some .boolean }, accessFlags := 9, code := some k1c2 }
/-- com/example/monitorgen/monitorgen/trace/InstantClearPinLaw -/
def k1 : Class := { plain "com/example/monitorgen/monitorgen/trace/InstantClearPinLaw" (some 0) with
  accessFlags := 49
  interfaces := #[]
  cf := some (fileOf pool1 11 #[] #[{ accessFlags := 1, nameIndex := 5, descriptorIndex := 6, attributes := #[] }, { accessFlags := 10, nameIndex := 14, descriptorIndex := 15, attributes := #[] }, { accessFlags := 9, nameIndex := 48, descriptorIndex := 49, attributes := #[] }] 49 2 #[] #[])
  fields := #[]
  methods := #[k1m0, k1m1, k1m2]
  instanceTypes := #[]
  staticTypes := #[]
  resolved := Array.replicate 52 none
  statics := none }

def pool2 : Array CpInfo := pool [(1, .methodref 2 3), (0, .class_ 4), (0, .nameAndType 5 6), (0, u "java/lang/Object"), (0, u "<init>"), (0, u "()V"), (0, .fieldref 8 9), (0, .class_ 10), (0, .nameAndType 11 12), (0, u "com/example/monitorgen/monitorgen/trace/Instant"), (0, u "_events"), (0, u "[I"), (0, .fieldref 8 14), (0, .nameAndType 15 16), (0, u "_counts"), (0, u "[J"), (0, .fieldref 8 18), (0, .nameAndType 19 12), (0, u "_slotOf"), (0, .fieldref 8 21), (0, .nameAndType 22 12), (0, u "_slots"), (0, .fieldref 8 24), (0, .nameAndType 25 26), (0, u "_distinct"), (0, u "I"), (0, .fieldref 8 28), (0, .nameAndType 29 30), (0, u "_total"), (0, u "J"), (0, .fieldref 8 32), (0, .nameAndType 33 30), (0, u "_ignored"), (0, .integer 2654435769), (12, u "MIX"), (3, u "clear"), (1, u "add"), (0, u "(I)V"), (0, u "distinct"), (0, u "()I"), (0, u "event"), (0, u "(I)I"), (0, u "count"), (0, u "(I)J"), (0, u "events"), (0, u "()J"), (0, u "ignored"), (0, u "isEmpty"), (0, u "()Z")] 2

def k2c0 : Code := { maxStack := 2, maxLocals := 1, code := prog_66_method_1_code, exceptionTable := #[], attributes := #[] }
def k2m0 : Method := { name := "<init>", desc := "()V", sig := { parameters := [], returnType := none }, accessFlags := 0, code := some k2c0 }
def k2c1 : Code := { maxStack := 3, maxLocals := 2, code := prog_66_method_2_code, exceptionTable := #[], attributes := #[] }
def k2m1 : Method := { name := "clear", desc := "()V", sig := { parameters := [], returnType := none }, accessFlags := 0, code := some k2c1 }
def k2c2 : Code := { maxStack := 6, maxLocals := 5, code := prog_66_method_3_code, exceptionTable := #[], attributes := #[] }
def k2m2 : Method := { name := "add", desc := "(I)V", sig := { parameters := [.int], returnType := none }, accessFlags := 0, code := some k2c2 }
def k2c3 : Code := { maxStack := 1, maxLocals := 1, code := prog_66_method_4_code, exceptionTable := #[], attributes := #[] }
def k2m3 : Method := { name := "distinct", desc := "()I", sig := { parameters := [], returnType := some .int }, accessFlags := 0, code := some k2c3 }
def k2c4 : Code := { maxStack := 2, maxLocals := 2, code := prog_66_method_5_code, exceptionTable := #[], attributes := #[] }
def k2m4 : Method := { name := "event", desc := "(I)I", sig := { parameters := [.int], returnType := some .int }, accessFlags := 0, code := some k2c4 }
def k2c5 : Code := { maxStack := 2, maxLocals := 2, code := prog_66_method_6_code, exceptionTable := #[], attributes := #[] }
def k2m5 : Method := { name := "count", desc := "(I)J", sig := { parameters := [.int], returnType := some .long }, accessFlags := 0, code := some k2c5 }
def k2c6 : Code := { maxStack := 2, maxLocals := 1, code := prog_66_method_7_code, exceptionTable := #[], attributes := #[] }
def k2m6 : Method := { name := "events", desc := "()J", sig := { parameters := [], returnType := some .long }, accessFlags := 0, code := some k2c6 }
def k2c7 : Code := { maxStack := 2, maxLocals := 1, code := prog_66_method_8_code, exceptionTable := #[], attributes := #[] }
def k2m7 : Method := { name := "ignored", desc := "()J", sig := { parameters := [], returnType := some .long }, accessFlags := 0, code := some k2c7 }
def k2c8 : Code := { maxStack := 4, maxLocals := 1, code := prog_66_method_9_code, exceptionTable := #[], attributes := #[] }
def k2m8 : Method := { name := "isEmpty", desc := "()Z", sig := { parameters := [], returnType := some .boolean }, accessFlags := 0, code := some k2c8 }
/-- com/example/monitorgen/monitorgen/trace/Instant -/
def k2 : Class := { plain "com/example/monitorgen/monitorgen/trace/Instant" (some 0) with
  accessFlags := 48
  interfaces := #[]
  cf := some (fileOf pool2 8 #[] #[{ accessFlags := 0, nameIndex := 5, descriptorIndex := 6, attributes := #[] }, { accessFlags := 0, nameIndex := 51, descriptorIndex := 6, attributes := #[] }, { accessFlags := 0, nameIndex := 53, descriptorIndex := 54, attributes := #[] }, { accessFlags := 0, nameIndex := 55, descriptorIndex := 56, attributes := #[] }, { accessFlags := 0, nameIndex := 57, descriptorIndex := 58, attributes := #[] }, { accessFlags := 0, nameIndex := 59, descriptorIndex := 60, attributes := #[] }, { accessFlags := 0, nameIndex := 61, descriptorIndex := 62, attributes := #[] }, { accessFlags := 0, nameIndex := 63, descriptorIndex := 62, attributes := #[] }, { accessFlags := 0, nameIndex := 64, descriptorIndex := 65, attributes := #[] }] 48 2 #[] #[{ accessFlags := 26, nameIndex := 47, descriptorIndex := 26, attributes := #[] }, { accessFlags := 2, nameIndex := 11, descriptorIndex := 12, attributes := #[] }, { accessFlags := 2, nameIndex := 15, descriptorIndex := 16, attributes := #[] }, { accessFlags := 2, nameIndex := 19, descriptorIndex := 12, attributes := #[] }, { accessFlags := 2, nameIndex := 22, descriptorIndex := 12, attributes := #[] }, { accessFlags := 2, nameIndex := 25, descriptorIndex := 26, attributes := #[] }, { accessFlags := 2, nameIndex := 29, descriptorIndex := 30, attributes := #[] }, { accessFlags := 2, nameIndex := 33, descriptorIndex := 30, attributes := #[] }])
  fields := #[{ name := "MIX", type := .int, accessFlags := 26, slot := 0, constantValue := 0 }, { name := "_events", type := (.array .int), accessFlags := 2, slot := 0, constantValue := 0 }, { name := "_counts", type := (.array .long), accessFlags := 2, slot := 1, constantValue := 0 }, { name := "_slotOf", type := (.array .int), accessFlags := 2, slot := 2, constantValue := 0 }, { name := "_slots", type := (.array .int), accessFlags := 2, slot := 3, constantValue := 0 }, { name := "_distinct", type := .int, accessFlags := 2, slot := 4, constantValue := 0 }, { name := "_total", type := .long, accessFlags := 2, slot := 5, constantValue := 0 }, { name := "_ignored", type := .long, accessFlags := 2, slot := 6, constantValue := 0 }]
  methods := #[k2m0, k2m1, k2m2, k2m3, k2m4, k2m5, k2m6, k2m7, k2m8]
  instanceTypes := #[(.array .int), (.array .long), (.array .int), (.array .int), .int, .long, .long]
  staticTypes := #[.int]
  resolved := Array.replicate 68 none
  statics := none }

def pool3 : Array CpInfo := pool [(1, u "java/lang/Cloneable"), (0, .class_ 1), (0, u "java/lang/Object"), (0, .class_ 3)] 3

/-- java/lang/Cloneable -/
def k3 : Class := { plain "java/lang/Cloneable" (some 0) with
  accessFlags := 1537
  interfaces := #[]
  cf := some (fileOf pool3 2 #[] #[] 1537 4 #[] #[])
  fields := #[]
  methods := #[]
  instanceTypes := #[]
  staticTypes := #[]
  resolved := Array.replicate 8 none
  statics := none }

def pool4 : Array CpInfo := pool [(1, u "java/io/Serializable"), (0, .class_ 1), (0, u "java/lang/Object"), (0, .class_ 3)] 3

/-- java/io/Serializable -/
def k4 : Class := { plain "java/io/Serializable" (some 0) with
  accessFlags := 1537
  interfaces := #[]
  cf := some (fileOf pool4 2 #[] #[] 1537 4 #[] #[])
  fields := #[]
  methods := #[]
  instanceTypes := #[]
  staticTypes := #[]
  resolved := Array.replicate 8 none
  statics := none }

/-- the primitive byte -/
def k5 : Class := { plain "byte" none with kind := .primitive 'B', accessFlags := 0x411 }
/-- [B -/
def k6 : Class := { plain "[B" (some 0) with kind := .array 5 .byte, interfaces := #[3, 4], accessFlags := 1041 }

/-- the primitive int -/
def k7 : Class := { plain "int" none with kind := .primitive 'I', accessFlags := 0x411 }
/-- [I -/
def k8 : Class := { plain "[I" (some 0) with kind := .array 7 .int, interfaces := #[3, 4], accessFlags := 1041 }

/-- the primitive long -/
def k9 : Class := { plain "long" none with kind := .primitive 'J', accessFlags := 0x411 }
/-- [J -/
def k10 : Class := { plain "[J" (some 0) with kind := .array 9 .long, interfaces := #[3, 4], accessFlags := 1041 }

def heap : Heap := #[]
def classes : Array Class := #[k0, k1, k2, k3, k4, k5, k6, k7, k8, k9, k10]
def interned : List (Array UInt16 × Addr) := []
def slotsUsed : Nat := 0
def theMethod : MethodId := ⟨1, 2⟩
def args0 : Array Value := #[.int 3, .int 4, .int 3, .int 5, .int 7]
def aboutOver (below : List Frame) : State where
  vm := { classes := classes, interned := interned.toArray }
  heap := heap
  slotsUsed := slotsUsed
  threads := #[{ frames := .invoking theMethod args0 :: below }]
def below0 : List Frame := [.native { method := ⟨0, 0⟩, args := #[] }]
def about1 : State := aboutOver below0
def p0 : Program := .bare "" "" ""
def e0 : Env := launch0.env 0 0 0
theorem w_frames : about1.frames = Frame.invoking theMethod args0 :: below0 := rfl
set_option maxRecDepth 65536 in
theorem w_args : argsFit about1.vm theMethod args0 = true := by decide +kernel
set_option maxRecDepth 65536 in
theorem w_heap : heapFits about1 = true := by decide +kernel
set_option maxRecDepth 65536 in
theorem w_runnable : about1.curStatus? = some .runnable := by decide +kernel
set_option maxRecDepth 65536 in
theorem w_alone : about1.alone = true := by decide +kernel
set_option maxRecDepth 65536 in
theorem w_named : about1.methodNamed? x = some theMethod := by decide +kernel
set_option maxRecDepth 65536 in
theorem w_hears : about1.hears theMethod below0 = true := by decide +kernel
set_option maxRecDepth 65536 in
theorem w_ripe : about1.ripe theMethod args0 below0 = true := by decide +kernel
theorem w_running : about1.status = .running := rfl
set_option maxRecDepth 65536 in
theorem w_room : about1.hasRoom e0.platform room_1 = true :=
  launch0.hasRoom_least _ room_1 (by decide +kernel) (by decide +kernel) (by decide +kernel) (by decide +kernel) (by decide +kernel) (by decide +kernel)
theorem allAtoms_all (ts : List Jvm.Cond) (a : Array Jvm.Value) (st : Jvm.State) : (allAtoms ts).before a st = ts.all (fun c => c.before a st) := by
  induction ts with
  | nil => rfl
  | cons c t ih =>
    show (Jvm.Cond.and c (allAtoms t)).before a st = _
    rw [Jvm.Cond.before_and, ih, List.all_cons]
def words1 : List Jvm.Cond := Jvm.Cond.code x code maxLocals ret :: tables_1
/-- a 'code' word, met by the world's own term for the bytes: nothing is compared byte by byte -/
theorem code_word {y : MethodName} {bytes : ByteArray} {mx : Nat} {rt : Option FieldType} {a : Array Value} {s : State} {m : MethodId} {meth : Method} {c : Code} (h1 : s.methodNamed? y = some m) (h2 : s.vm.method? m = some meth) (h3 : meth.code = some c) (h4 : c.code = bytes)
    (h5 : (c.maxLocals == mx && c.exceptionTable.isEmpty && decide (c.maxStack ≤ mostOperands) && decide (meth.sig.returnType = rt) && !meth.locks && decide (parseMethodDescriptor y.desc = some meth.sig)) = true) : (Jvm.Cond.code y bytes mx rt).before a s = true := by
  simp only [Bool.and_eq_true, beq_iff_eq, Bool.not_eq_true', decide_eq_true_eq] at h5
  obtain ⟨⟨⟨⟨⟨g1, g2⟩, g3⟩, g4⟩, g5⟩, g6⟩ := h5
  simp [Cond.before, Cond.holds, Cond.value, h1, h2, h3, h4, g1, g2, g3, g4, g5, g6]
def isCode : Jvm.Cond → Bool
  | .code _ _ _ _ => true
  | _ => false
theorem all_split {L : List Jvm.Cond} {P : Jvm.Cond → Bool} (h1 : L.all (fun c => isCode c || P c) = true) (h2 : ∀ c ∈ L.filter isCode, P c = true) : L.all P = true := by
  refine List.all_eq_true.mpr fun c hc => ?_
  have h := List.all_eq_true.mp h1 c hc
  rcases Bool.eq_false_or_eq_true (isCode c) with hi | hi
  · exact h2 c (List.mem_filter.mpr ⟨hc, hi⟩)
  · simpa [hi] using h
set_option maxRecDepth 65536 in
theorem w_c0 : (Jvm.Cond.code x code maxLocals ret).before args0 about1 = true := code_word (m := ⟨1, 2⟩) (meth := k1m2) (c := k1c2) (by decide +kernel) rfl rfl rfl (by decide +kernel)
set_option maxRecDepth 65536 in
theorem w_c1 : (Jvm.Cond.code ({ cls := "com/example/monitorgen/monitorgen/trace/Instant", name := "<init>", desc := "()V" } : Jvm.MethodName) prog_66_method_1_code (1 : Nat) (Option.none : Option Jvm.ClassFile.FieldType)).before args0 about1 = true := code_word (m := ⟨2, 0⟩) (meth := k2m0) (c := k2c0) (by decide +kernel) rfl rfl rfl (by decide +kernel)
set_option maxRecDepth 65536 in
theorem w_c2 : (Jvm.Cond.code ({ cls := "java/lang/Object", name := "<init>", desc := "()V" } : Jvm.MethodName) object_method_1_code (1 : Nat) (Option.none : Option Jvm.ClassFile.FieldType)).before args0 about1 = true := code_word (m := ⟨0, 0⟩) (meth := k0m0) (c := k0c0) (by decide +kernel) rfl rfl rfl (by decide +kernel)
set_option maxRecDepth 65536 in
theorem w_c3 : (Jvm.Cond.code ({ cls := "com/example/monitorgen/monitorgen/trace/Instant", name := "clear", desc := "()V" } : Jvm.MethodName) prog_66_method_2_code (2 : Nat) (Option.none : Option Jvm.ClassFile.FieldType)).before args0 about1 = true := code_word (m := ⟨2, 1⟩) (meth := k2m1) (c := k2c1) (by decide +kernel) rfl rfl rfl (by decide +kernel)
set_option maxRecDepth 65536 in
theorem w_c4 : (Jvm.Cond.code ({ cls := "com/example/monitorgen/monitorgen/trace/Instant", name := "isEmpty", desc := "()Z" } : Jvm.MethodName) prog_66_method_9_code (1 : Nat) (Option.some Jvm.ClassFile.FieldType.boolean)).before args0 about1 = true := code_word (m := ⟨2, 8⟩) (meth := k2m8) (c := k2c8) (by decide +kernel) rfl rfl rfl (by decide +kernel)
set_option maxRecDepth 65536 in
theorem w_c5 : (Jvm.Cond.code ({ cls := "com/example/monitorgen/monitorgen/trace/InstantClearPinLaw", name := "ev", desc := "(I)I" } : Jvm.MethodName) method_2_code (1 : Nat) (Option.some Jvm.ClassFile.FieldType.int)).before args0 about1 = true := code_word (m := ⟨1, 1⟩) (meth := k1m1) (c := k1c1) (by decide +kernel) rfl rfl rfl (by decide +kernel)
set_option maxRecDepth 65536 in
theorem w_c6 : (Jvm.Cond.code ({ cls := "com/example/monitorgen/monitorgen/trace/Instant", name := "add", desc := "(I)V" } : Jvm.MethodName) prog_66_method_3_code (5 : Nat) (Option.none : Option Jvm.ClassFile.FieldType)).before args0 about1 = true := code_word (m := ⟨2, 2⟩) (meth := k2m2) (c := k2c2) (by decide +kernel) rfl rfl rfl (by decide +kernel)
set_option maxRecDepth 65536 in
theorem w_c7 : (Jvm.Cond.code ({ cls := "com/example/monitorgen/monitorgen/trace/Instant", name := "distinct", desc := "()I" } : Jvm.MethodName) prog_66_method_4_code (1 : Nat) (Option.some Jvm.ClassFile.FieldType.int)).before args0 about1 = true := code_word (m := ⟨2, 3⟩) (meth := k2m3) (c := k2c3) (by decide +kernel) rfl rfl rfl (by decide +kernel)
set_option maxRecDepth 65536 in
theorem w_c8 : (Jvm.Cond.code ({ cls := "com/example/monitorgen/monitorgen/trace/Instant", name := "event", desc := "(I)I" } : Jvm.MethodName) prog_66_method_5_code (2 : Nat) (Option.some Jvm.ClassFile.FieldType.int)).before args0 about1 = true := code_word (m := ⟨2, 4⟩) (meth := k2m4) (c := k2c4) (by decide +kernel) rfl rfl rfl (by decide +kernel)
set_option maxRecDepth 65536 in
theorem w_c9 : (Jvm.Cond.code ({ cls := "com/example/monitorgen/monitorgen/trace/Instant", name := "count", desc := "(I)J" } : Jvm.MethodName) prog_66_method_6_code (2 : Nat) (Option.some Jvm.ClassFile.FieldType.long)).before args0 about1 = true := code_word (m := ⟨2, 5⟩) (meth := k2m5) (c := k2c5) (by decide +kernel) rfl rfl rfl (by decide +kernel)
set_option maxRecDepth 65536 in
theorem w_c10 : (Jvm.Cond.code ({ cls := "com/example/monitorgen/monitorgen/trace/Instant", name := "events", desc := "()J" } : Jvm.MethodName) prog_66_method_7_code (1 : Nat) (Option.some Jvm.ClassFile.FieldType.long)).before args0 about1 = true := code_word (m := ⟨2, 6⟩) (meth := k2m6) (c := k2c6) (by decide +kernel) rfl rfl rfl (by decide +kernel)
set_option maxRecDepth 65536 in
theorem w_c11 : (Jvm.Cond.code ({ cls := "com/example/monitorgen/monitorgen/trace/Instant", name := "ignored", desc := "()J" } : Jvm.MethodName) prog_66_method_8_code (1 : Nat) (Option.some Jvm.ClassFile.FieldType.long)).before args0 about1 = true := code_word (m := ⟨2, 7⟩) (meth := k2m7) (c := k2c7) (by decide +kernel) rfl rfl rfl (by decide +kernel)
def codes1 : List Jvm.Cond := [Jvm.Cond.code x code maxLocals ret, Jvm.Cond.code ({ cls := "com/example/monitorgen/monitorgen/trace/Instant", name := "<init>", desc := "()V" } : Jvm.MethodName) prog_66_method_1_code (1 : Nat) (Option.none : Option Jvm.ClassFile.FieldType), Jvm.Cond.code ({ cls := "java/lang/Object", name := "<init>", desc := "()V" } : Jvm.MethodName) object_method_1_code (1 : Nat) (Option.none : Option Jvm.ClassFile.FieldType), Jvm.Cond.code ({ cls := "com/example/monitorgen/monitorgen/trace/Instant", name := "clear", desc := "()V" } : Jvm.MethodName) prog_66_method_2_code (2 : Nat) (Option.none : Option Jvm.ClassFile.FieldType), Jvm.Cond.code ({ cls := "com/example/monitorgen/monitorgen/trace/Instant", name := "isEmpty", desc := "()Z" } : Jvm.MethodName) prog_66_method_9_code (1 : Nat) (Option.some Jvm.ClassFile.FieldType.boolean), Jvm.Cond.code ({ cls := "com/example/monitorgen/monitorgen/trace/InstantClearPinLaw", name := "ev", desc := "(I)I" } : Jvm.MethodName) method_2_code (1 : Nat) (Option.some Jvm.ClassFile.FieldType.int), Jvm.Cond.code ({ cls := "com/example/monitorgen/monitorgen/trace/Instant", name := "add", desc := "(I)V" } : Jvm.MethodName) prog_66_method_3_code (5 : Nat) (Option.none : Option Jvm.ClassFile.FieldType), Jvm.Cond.code ({ cls := "com/example/monitorgen/monitorgen/trace/Instant", name := "distinct", desc := "()I" } : Jvm.MethodName) prog_66_method_4_code (1 : Nat) (Option.some Jvm.ClassFile.FieldType.int), Jvm.Cond.code ({ cls := "com/example/monitorgen/monitorgen/trace/Instant", name := "event", desc := "(I)I" } : Jvm.MethodName) prog_66_method_5_code (2 : Nat) (Option.some Jvm.ClassFile.FieldType.int), Jvm.Cond.code ({ cls := "com/example/monitorgen/monitorgen/trace/Instant", name := "count", desc := "(I)J" } : Jvm.MethodName) prog_66_method_6_code (2 : Nat) (Option.some Jvm.ClassFile.FieldType.long), Jvm.Cond.code ({ cls := "com/example/monitorgen/monitorgen/trace/Instant", name := "events", desc := "()J" } : Jvm.MethodName) prog_66_method_7_code (1 : Nat) (Option.some Jvm.ClassFile.FieldType.long), Jvm.Cond.code ({ cls := "com/example/monitorgen/monitorgen/trace/Instant", name := "ignored", desc := "()J" } : Jvm.MethodName) prog_66_method_8_code (1 : Nat) (Option.some Jvm.ClassFile.FieldType.long)]
set_option maxRecDepth 65536 in
theorem codes_eq : words1.filter isCode = codes1 := rfl
theorem w_codes : ∀ c ∈ words1.filter isCode, c.before args0 about1 = true := by
  rw [codes_eq]
  intro c hc
  simp only [codes1, List.mem_cons, List.not_mem_nil, or_false] at hc
  rcases hc with rfl | rfl | rfl | rfl | rfl | rfl | rfl | rfl | rfl | rfl | rfl | rfl
  · exact w_c0
  · exact w_c1
  · exact w_c2
  · exact w_c3
  · exact w_c4
  · exact w_c5
  · exact w_c6
  · exact w_c7
  · exact w_c8
  · exact w_c9
  · exact w_c10
  · exact w_c11
set_option maxRecDepth 65536 in
theorem w_t1 : (words1.take 24).all (fun c => isCode c || c.before args0 about1) = true := by decide +kernel
set_option maxRecDepth 65536 in
theorem w_t2 : ((words1.drop 24).take 24).all (fun c => isCode c || c.before args0 about1) = true := by decide +kernel
set_option maxRecDepth 65536 in
theorem w_t3 : ((words1.drop 24).drop 24).all (fun c => isCode c || c.before args0 about1) = true := by decide +kernel
theorem w_tables : (allAtoms (Jvm.Cond.code x code maxLocals ret :: tables_1)).before args0 about1 = true := by
  rw [allAtoms_all]
  show words1.all (fun c => c.before args0 about1) = true
  refine all_split ?_ w_codes
  rw [← List.take_append_drop 24 words1, List.all_append, w_t1, ← List.take_append_drop 24 (words1.drop 24), List.all_append, w_t2, w_t3]
  rfl
set_option maxRecDepth 65536 in
theorem w_case : (Jvm.Cond.and given_1 narrow_1).before args0 about1 = true := by decide +kernel
theorem w_applies : (headSpec (Jvm.Cond.code x code maxLocals ret :: tables_1) room_1).applies x e0.platform about1 = true :=
  (Spec.applies_iff w_frames).mpr ⟨w_running, w_runnable, w_alone, w_named, w_hears, w_ripe, w_room, w_tables⟩
theorem atStart : AtStart classFile x code maxLocals ret World_1 tables_1 room_1 Calls_1 rest_1 Pre_1 launch0 p0 e0 about1 theMethod args0 below0 :=
  ⟨lists_1, trivial, launch0.admits_env _ _ _, launch0.least_env, fairChoices_fair.cas, fairChoices_fair.clock, w_frames, w_args, w_heap, w_applies, trivial, trivial, w_case⟩
end start1
theorem witness_1 : WitnessClaimed_1 := ⟨start1.p0, start1.e0, start1.about1, start1.theMethod, start1.args0, start1.below0, start1.atStart⟩
end Jvm.Pilot.@@N@@
