import JvmDerived
import JvmDerived.Pilot.@@N@@Statement
import JvmDerived.Pilot.@@N@@Code
set_option linter.unusedVariables false
set_option linter.unusedSimpArgs false
namespace Jvm.OwnW
open Sem ClassFile Op Lib Jvm.Stand Jvm.Free Jvm.LawKit Jvm.RoadKit
/-- what is left to be shown of a walk that stands at S: it comes back, Q holds, the frame holds -/
def Wp (p : Program) (e : Env) (s : State) (below : List Frame) (Q : Option Value → Heap → List Loc → Prop) (kc ks : Nat) (S : State) : Prop :=
  ∃ s₂ o, Steps p.tables e below S s₂ ∧ s₂.status = .running ∧ Ended s₂ below o ∧ ∃ v L, o = .returned v ∧ Q v s₂.heap L ∧ FrameEnd s o s₂ L kc ks
/-- a method's contract at given arguments and a given heap -/
def Con (l : Launch) (Z : State) (y : MethodName) (bytes : ByteArray) (maxL : Nat) (ret : Option FieldType) (ws : List Jvm.Cond) (rm : Room) (as' : Array Value) (h0 : Heap) (Q : Option Value → Heap → List Loc → Prop) : Prop :=
  MetFree l y (head1 (Jvm.Cond.code y bytes maxL ret :: ws) rm) (fun a U => a = as' ∧ Z.Warmed39 U.vm ∧ U.heap = h0) (fun _ _ _ _ _ => True) (fun _ U o U' => ∃ v L, o = .returned v ∧ Q v U'.heap L ∧ FrameEnd U o U' L rm.cells rm.slots)
/-- an array: its kind, length, and what each place holds -/
def IArr (Z : State) (h : Heap) (a : Addr) (ty : FieldType) (n : Nat) (f : Nat → Value) : Prop := ∃ c : Cell, Arr Z h a c ty ∧ c.slots.size = n ∧ ∀ j, j < n → c.slots[j]? = some (f j)
def upd (f : Nat → Value) (i : Nat) (v : Value) : Nat → Value := fun k => if k = i then v else f k
theorem upd_same (f : Nat → Value) (i : Nat) (v : Value) : upd f i v i = v := by simp [upd]
theorem upd_ne {f : Nat → Value} {i k : Nat} {v : Value} (q : k ≠ i) : upd f i v k = f k := by simp [upd, q]
section W
variable {p : Program} {l : Launch} {e : Env} {R : Room} {s : State} {m : MethodId} {args : Array Value} {below : List Frame} {meth : Method} {c : Code} {T : State} {locs : List Loc} {cells slots : Nat} {Q : Option Value → Heap → List Loc → Prop} {kc ks : Nat} {Z : State} {a0 : Array Value} {h h' : Heap} {pc : Nat} {Ls : Array Slot} {st rest : List Value} {a b : Addr} {n : Nat} {f : Nat → Value} {ty : FieldType}
theorem IArr.lt (A : IArr Z h a ty n f) : a < h.size := by obtain ⟨c, A, -⟩ := A; exact A.lt
theorem IArr.ext (A : IArr Z h a ty n f) (E : Ext h h') : IArr Z h' a ty n f := by obtain ⟨c, A, r⟩ := A; exact ⟨c, A.ext E, r⟩
theorem IArr.other {sl : Nat} {v : Value} (A : IArr Z h b ty n f) (W : Wr h h' a sl v) (q : b ≠ a) : IArr Z h' b ty n f := by obtain ⟨c, A, r⟩ := A; exact ⟨c, A.other W q, r⟩
theorem IArr.keep {ws : List Addr} (A : IArr Z h a ty n f) (K : Keep h h' ws) (q : a ∉ ws) : IArr Z h' a ty n f := by obtain ⟨c, A, r⟩ := A; exact ⟨c, ⟨K.2.1 a c A.1 q, A.2⟩, r⟩
theorem IArr.same {i : Nat} {v : Value} (A : IArr Z h a ty n f) (W : Wr h h' a i v) : IArr Z h' a ty n (upd f i v) := by
  obtain ⟨c, A, S, H⟩ := A
  refine ⟨_, A.same W, by rw [sz_set]; exact S, fun j hj => ?_⟩
  unfold upd Cell.setSlot
  dsimp only
  split
  · rename_i q; subst q
    rw [Array.getElem?_setIfInBounds_self_of_lt (by omega)]
  · rename_i q
    rw [Array.getElem?_setIfInBounds_ne (Ne.symm q)]; exact H j hj
theorem IArr.fresh {cA : ClassId} {z : Int32} {k : Nat} (A : Arr Z h a (newA cA ty z) ty) (q : z.toNatClampNeg = k) : IArr Z h a ty k (fun _ => defaultValue ty) :=
  ⟨_, A, by rw [sz_new]; exact q, fun j hj => by subst q; simp [newA, hj]⟩
theorem IArr.cong {g : Nat → Value} (A : IArr Z h a ty n f) (q : ∀ j, j < n → g j = f j) : IArr Z h a ty n g := by
  obtain ⟨c, A, S, H⟩ := A; exact ⟨c, A, S, fun j hj => by rw [H j hj, q j hj]⟩
theorem nat_of {j : Int32} {i : Nat} (hj : j.toInt = (i : Int)) : ¬ j < 0 ∧ j.toNatClampNeg = i := by
  refine ⟨?_, ?_⟩
  · rw [Int32.lt_iff_toInt_lt, hj]; show ¬ (i : Int) < 0; omega
  · show j.toInt.toNat = i; rw [hj]; rfl
theorem fr1 {k : Nat} {a : Addr} {i : Nat} (q : k ≤ a) : Fr k [⟨a, i⟩] := fun y hy => by cases List.mem_singleton.mp hy; exact q
theorem own_and (x M : Int32) (hM : 0 ≤ M.toInt) : ∃ n : Nat, (n : Int) ≤ M.toInt ∧ (x &&& M).toInt = (n : Int) := by
  have h1 : (x &&& M).toBitVec.toNat ≤ M.toBitVec.toNat := by rw [Int32.toBitVec_and, BitVec.toNat_and]; exact Nat.and_le_right
  have h2 : M.toInt = if 2 * M.toBitVec.toNat < 2 ^ 32 then (M.toBitVec.toNat : Int) else (M.toBitVec.toNat : Int) - (2 ^ 32 : Nat) := BitVec.toInt_eq_toNat_cond _
  have h3 : (x &&& M).toInt = if 2 * (x &&& M).toBitVec.toNat < 2 ^ 32 then ((x &&& M).toBitVec.toNat : Int) else ((x &&& M).toBitVec.toNat : Int) - (2 ^ 32 : Nat) := BitVec.toInt_eq_toNat_cond _
  have h4 := M.toBitVec.isLt
  refine ⟨(x &&& M).toBitVec.toNat, ?_, ?_⟩
  · split at h2 <;> omega
  · split at h2 <;> split at h3 <;> omega
theorem own_rem {x y : Int32} (hx : 0 ≤ x.toInt) (hy : 0 < y.toInt) : ∃ n : Nat, (n : Int) < y.toInt ∧ (x % y).toInt = (n : Int) ∧ (n : Int) = x.toInt % y.toInt := by
  have h1 : (x % y).toInt = x.toInt.tmod y.toInt := Int32.toInt_mod _ _
  rw [Int.tmod_eq_emod_of_nonneg hx] at h1
  have h2 := Int.emod_nonneg x.toInt (Int.ne_of_gt hy)
  have h3 := Int.emod_lt_of_pos x.toInt hy
  exact ⟨(x.toInt % y.toInt).toNat, by omega, by omega, by omega⟩
theorem own_add {x y : Int32} (h1 : -2147483648 ≤ x.toInt + y.toInt) (h2 : x.toInt + y.toInt < 2147483648) : (x + y).toInt = x.toInt + y.toInt := by
  have a := c_iadd x y
  have r := rng32 (x + y)
  omega
theorem own_sub {x y : Int32} (h1 : -2147483648 ≤ x.toInt - y.toInt) (h2 : x.toInt - y.toInt < 2147483648) : (x - y).toInt = x.toInt - y.toInt := by
  have a := c_isub x y
  have r := rng32 (x - y)
  omega
theorem own_ofNat {n : Nat} (h : n < 2147483648) : (Int32.ofNat n).toInt = (n : Int) := Int32.toInt_ofNat_of_lt h
theorem own_ieq {x : Int32} {n : Nat} (h : x.toInt = (n : Int)) : x = Int32.ofNat n := by
  have r := rng32 x
  apply Int32.toInt_inj.mp; rw [h, own_ofNat (by omega)]
theorem Wp.step {S S' : State} (f : ∀ t, Steps p.tables e below S' t → Steps p.tables e below S t) (k : Wp p e s below Q kc ks S') : Wp p e s below Q kc ks S := by
  obtain ⟨s₂, o, h1, r⟩ := k
  exact ⟨s₂, o, f _ h1, r⟩
theorem Wp.chain {S S' : State} (f : Steps p.tables e below S S') (k : Wp p e s below Q kc ks S') : Wp p e s below Q kc ks S := by
  obtain ⟨s₂, o, h1, r⟩ := k
  exact ⟨s₂, o, f.trans h1, r⟩
theorem Wp.cast {S S' : State} (q : S = S') (k : Wp p e s below Q kc ks S') : Wp p e s below Q kc ks S := q ▸ k
theorem Wp.enter {g g' : JFrame} (q : g = g') (k : Wp p e s below Q kc ks (T.setTop g')) : Wp p e s below Q kc ks (T.setTop g) := q ▸ k
theorem Wp.mono {S : State} {Q' : Option Value → Heap → List Loc → Prop} {kc' ks' : Nat} (k : Wp p e s below Q' kc' ks' S) (hq : ∀ v h L, Q' v h L → Q v h L) (h1 : kc' ≤ kc) (h2 : ks' ≤ ks) : Wp p e s below Q kc ks S := by
  obtain ⟨s₂, o, g1, g2, g3, v, L, g4, g5, g6, g7, g8⟩ := k
  exact ⟨s₂, o, g1, g2, g3, v, L, g4, hq _ _ _ g5, g6, g7, g8.mono h1 h2⟩
theorem Con.of {y : MethodName} {bytes : ByteArray} {maxL : Nat} {ret : Option FieldType} {ws : List Jvm.Cond} {rm : Room} {as' : Array Value} (hpn : plainFor y = true)
    (w : ∀ p e s m below meth c s₁, p.tables.exec = Jvm.exec → c.code = bytes → c.maxLocals = maxL → s.vm.findClass y.cls = some m.cls → meth.name = y.name → meth.sig.returnType = ret → meth.locks = false → Z.Warmed39 s.vm → Stand p l e rm s m as' below meth c s₁ [] 0 0 → s₁.heap = h → Wp p e s below Q rm.cells rm.slots (s₁.setTop (entryFrame m as' maxL))) :
    Con l Z y bytes maxL ret ws rm as' h Q := by
  refine MetFree.of_bodySF hpn hisR ?_
  intro p e s m args below meth c s₁ Bd hml0 hP hK
  obtain ⟨rfl, hZ, hh⟩ := hP
  exact w p e s m below meth c s₁ Bd.exec Bd.bytes hml0 (findClass_of_methodNamed Bd.named) (name_of_methodNamed Bd.named Bd.method).1 Bd.returns (BodyLoose.notSynchronized Bd) hZ (Stand.of_body Bd) (by rw [← hh, Bd.state]; rfl)
theorem Con.mono {y : MethodName} {bytes : ByteArray} {maxL : Nat} {ret : Option FieldType} {ws : List Jvm.Cond} {rm : Room} {as' : Array Value} {Q' : Option Value → Heap → List Loc → Prop} (k : Con l Z y bytes maxL ret ws rm as' h Q') (hq : ∀ v h L, Q' v h L → Q v h L) : Con l Z y bytes maxL ret ws rm as' h Q := by
  intro p e h1 h2 h3 s m args below h4 h5 h6 h7
  obtain ⟨n, o, g1, g2, g3, v, L, g4, g5, g6⟩ := k p e h1 h2 h3 s m args below h4 h5 h6 h7
  exact ⟨n, o, g1, g2, g3, v, L, g4, hq _ _ _ g5, g6⟩
/-! the ends -/
theorem Wp.done (X : Stand p l e R s m args below meth c T locs cells slots) (hlk : meth.locks = false) {v : Option Value} (hv : meth.sig.returnType = none → v = none)
    (stp : ∀ fs, (∀ (f : JFrame) (acts : List Action), f.method = m → f.locked = none → f.entered = [] → (doReturn e (T.setTop f) acts v).1 = T.setFrames fs) → Steps p.tables e below (T.setTop (mkF m pc Ls st)) (T.setFrames fs))
    (hQ : Q v T.heap locs) (hc : cells ≤ kc) (hs : slots ≤ ks) : Wp p e s below Q kc ks (T.setTop (mkF m pc Ls st)) := by
  obtain ⟨fs, hr, hrun, hended, hW, hsame⟩ := X.leave (v := v) hv hlk
  exact ⟨_, _, stp fs hr, hrun, hended, v, locs, rfl, hQ, ⟨_, rfl⟩, hW, hsame.mono hc hs⟩
theorem W.iret (X : Stand p l e R s m args below meth c T locs cells slots) (hx : p.tables.exec = Jvm.exec) (hlk : meth.locks = false) (hret : meth.sig.returnType = some .int) (hd : decode c.code pc = .ok (.ireturn, 1)) {z : Int32} (hc : cells ≤ kc) (hs : slots ≤ ks) (hQ : Q (some (.int z)) T.heap locs) : Wp p e s below Q kc ks (T.setTop (mkF m pc Ls (.int z :: rest))) :=
  Wp.done X hlk (fun h => by rw [hret] at h; cases h) (fun fs hr => retOut X hx hret rfl (Or.inl ⟨rfl, Or.inl rfl, _, rfl⟩) hd hr) hQ hc hs
theorem W.nret (X : Stand p l e R s m args below meth c T locs cells slots) (hx : p.tables.exec = Jvm.exec) (hlk : meth.locks = false) {t : FieldType} (hret : meth.sig.returnType = some t) (ht : t = .boolean ∨ t = .byte ∨ t = .char ∨ t = .short) (hd : decode c.code pc = .ok (.ireturn, 1)) {z : Int32} (hc : cells ≤ kc) (hs : slots ≤ ks) (hQ : Q (some (.int (nar t z))) T.heap locs) : Wp p e s below Q kc ks (T.setTop (mkF m pc Ls (.int z :: rest))) :=
  Wp.done X hlk (fun h => by rw [hret] at h; cases h) (fun fs hr => retN X hx hret ht hd hr) hQ hc hs
theorem W.lret (X : Stand p l e R s m args below meth c T locs cells slots) (hx : p.tables.exec = Jvm.exec) (hlk : meth.locks = false) (hret : meth.sig.returnType = some .long) (hd : decode c.code pc = .ok (.lreturn, 1)) {z : Int64} (hc : cells ≤ kc) (hs : slots ≤ ks) (hQ : Q (some (.long z)) T.heap locs) : Wp p e s below Q kc ks (T.setTop (mkF m pc Ls (.long z :: rest))) :=
  Wp.done X hlk (fun h => by rw [hret] at h; cases h) (fun fs hr => retOut X hx hret rfl (Or.inr (Or.inl ⟨rfl, rfl, _, rfl⟩)) hd hr) hQ hc hs
theorem W.dret (X : Stand p l e R s m args below meth c T locs cells slots) (hx : p.tables.exec = Jvm.exec) (hlk : meth.locks = false) (hret : meth.sig.returnType = some .double) (hd : decode c.code pc = .ok (.dreturn, 1)) {z : UInt64} (hc : cells ≤ kc) (hs : slots ≤ ks) (hQ : Q (some (.double z)) T.heap locs) : Wp p e s below Q kc ks (T.setTop (mkF m pc Ls (.double z :: rest))) :=
  Wp.done X hlk (fun h => by rw [hret] at h; cases h) (fun fs hr => retOut X hx hret rfl (Or.inr (Or.inr (Or.inl ⟨rfl, rfl, _, rfl⟩))) hd hr) hQ hc hs
theorem W.aret (X : Stand p l e R s m args below meth c T locs cells slots) (hx : p.tables.exec = Jvm.exec) (hlk : meth.locks = false) {t : FieldType} (hret : meth.sig.returnType = some t) (ht : t.isReference = true) {w : Value} (hw : w.isRef = true) (hd : decode c.code pc = .ok (.areturn, 1)) (hc : cells ≤ kc) (hs : slots ≤ ks) (hQ : Q (some w) T.heap locs) : Wp p e s below Q kc ks (T.setTop (mkF m pc Ls (w :: rest))) :=
  Wp.done X hlk (fun h => by rw [hret] at h; cases h) (fun fs hr => retOut X hx hret (by rcases ref_cases hw with rfl | ⟨z, rfl⟩ <;> cases t <;> first | rfl | cases ht) (Or.inr (Or.inr (Or.inr (Or.inr ⟨rfl, ht, hw⟩)))) hd hr) hQ hc hs
theorem W.vret (X : Stand p l e R s m args below meth c T locs cells slots) (hx : p.tables.exec = Jvm.exec) (hlk : meth.locks = false) (hret : meth.sig.returnType = none) (hd : decode c.code pc = .ok (.return_, 1)) (hc : cells ≤ kc) (hs : slots ≤ ks) (hQ : Q none T.heap locs) : Wp p e s below Q kc ks (T.setTop (mkF m pc Ls [])) :=
  Wp.done X hlk (fun _ => rfl) (fun fs hr => X.returnOut hx hret hd hr) hQ hc hs
/-! plain steps -/
theorem W.iconst (X : Stand p l e R s m args below meth c T locs cells slots) (hx : p.tables.exec = Jvm.exec) {i : Int} (pc' : Nat) (v : Int32) (hd : decode c.code pc = .ok (.iconst i, 1)) (hv : Int32.ofInt i = v) (hp : pc + 1 = pc') (K : Wp p e s below Q kc ks (T.setTop (mkF m pc' Ls (.int v :: st)))) : Wp p e s below Q kc ks (T.setTop (mkF m pc Ls st)) := by
  subst hp hv; exact Wp.step (fun _ k => XS.iconst X.here hx rfl hd k) K
theorem W.bipush (X : Stand p l e R s m args below meth c T locs cells slots) (hx : p.tables.exec = Jvm.exec) {i : Int} (pc' : Nat) (v : Int32) (hd : decode c.code pc = .ok (.bipush i, 2)) (hv : (Int8.ofInt i).toInt32 = v) (hp : pc + 2 = pc') (K : Wp p e s below Q kc ks (T.setTop (mkF m pc' Ls (.int v :: st)))) : Wp p e s below Q kc ks (T.setTop (mkF m pc Ls st)) := by
  subst hp hv; exact Wp.step (fun _ k => XS.bipush X.here hx rfl hd k) K
theorem W.sipush (X : Stand p l e R s m args below meth c T locs cells slots) (hx : p.tables.exec = Jvm.exec) {i : Int} (pc' : Nat) (v : Int32) (hd : decode c.code pc = .ok (.sipush i, 3)) (hv : (Int16.ofInt i).toInt32 = v) (hp : pc + 3 = pc') (K : Wp p e s below Q kc ks (T.setTop (mkF m pc' Ls (.int v :: st)))) : Wp p e s below Q kc ks (T.setTop (mkF m pc Ls st)) := by
  subst hp hv; exact Wp.step (fun _ k => XS.sipush X.here hx rfl hd k) K
theorem W.lconst (X : Stand p l e R s m args below meth c T locs cells slots) (hx : p.tables.exec = Jvm.exec) {i : Fin 2} (pc' : Nat) (v : Int64) (hd : decode c.code pc = .ok (.lconst i, 1)) (hv : (Int64.ofNat i) = v) (hp : pc + 1 = pc') (K : Wp p e s below Q kc ks (T.setTop (mkF m pc' Ls (.long v :: st)))) : Wp p e s below Q kc ks (T.setTop (mkF m pc Ls st)) := by
  subst hp hv; exact Wp.step (fun _ k => XT.lconst X.here hx rfl hd k) K
theorem W.anull (X : Stand p l e R s m args below meth c T locs cells slots) (hx : p.tables.exec = Jvm.exec) (pc' : Nat) (hd : decode c.code pc = .ok (.aconst_null, 1)) (hp : pc + 1 = pc') (K : Wp p e s below Q kc ks (T.setTop (mkF m pc' Ls (.null :: st)))) : Wp p e s below Q kc ks (T.setTop (mkF m pc Ls st)) := by
  subst hp; exact Wp.step (fun _ k => XS.aconstNull X.here hx rfl hd k) K
theorem W.ldcI (X : Stand p l e R s m args below meth c T locs cells slots) (hx : p.tables.exec = Jvm.exec) (hZ : Z.Warmed39 s.vm) {own : String} {index : Nat} {v : Int32} (pc' : Nat) (hown : s.vm.findClass own = some m.cls) (w : (Jvm.Cond.constant own index v).before a0 Z = true) (hd : decode c.code pc = .ok (.ldc index, 2)) (hp : pc + 2 = pc') (K : Wp p e s below Q kc ks (T.setTop (mkF m pc' Ls (.int v :: st)))) : Wp p e s below Q kc ks (T.setTop (mkF m pc Ls st)) := by
  subst hp; exact Wp.step (fun t k => X.ldcInt hx hown (mvT hZ w) (g := mkF m pc Ls st) rfl hd t k) K
theorem W.ldcL (X : Stand p l e R s m args below meth c T locs cells slots) (hx : p.tables.exec = Jvm.exec) (hZ : Z.Warmed39 s.vm) {own : String} {index : Nat} {v : Int64} (pc' : Nat) (hown : s.vm.findClass own = some m.cls) (w : (Jvm.Cond.constantLong own index v).before a0 Z = true) (hd : decode c.code pc = .ok (.ldc2_w index, 3)) (hp : pc + 3 = pc') (K : Wp p e s below Q kc ks (T.setTop (mkF m pc' Ls (.long v :: st)))) : Wp p e s below Q kc ks (T.setTop (mkF m pc Ls st)) := by
  subst hp; exact Wp.step (fun t k => X.ldc2Long hx hown (mvT hZ w) (g := mkF m pc Ls st) rfl hd t k) K
theorem W.iloadN (X : Stand p l e R s m args below meth c T locs cells slots) (hx : p.tables.exec = Jvm.exec) {k : Fin 4} {x : Int32} (pc' : Nat) (hd : decode c.code pc = .ok (.iload_n k, 1)) (hl : Ls[k.val]? = some (.val (.int x))) (hp : pc + 1 = pc') (K : Wp p e s below Q kc ks (T.setTop (mkF m pc' Ls (.int x :: st)))) : Wp p e s below Q kc ks (T.setTop (mkF m pc Ls st)) := by
  subst hp; exact Wp.step (fun _ k => XS.iloadN X.here hx rfl hd hl k) K
theorem W.iload (X : Stand p l e R s m args below meth c T locs cells slots) (hx : p.tables.exec = Jvm.exec) {k : Nat} {x : Int32} (pc' : Nat) (hd : decode c.code pc = .ok (.iload k, 2)) (hl : Ls[k]? = some (.val (.int x))) (hp : pc + 2 = pc') (K : Wp p e s below Q kc ks (T.setTop (mkF m pc' Ls (.int x :: st)))) : Wp p e s below Q kc ks (T.setTop (mkF m pc Ls st)) := by
  subst hp; exact Wp.step (fun _ k => XS.iload X.here hx rfl hd hl k) K
theorem W.aloadN (X : Stand p l e R s m args below meth c T locs cells slots) (hx : p.tables.exec = Jvm.exec) {k : Fin 4} {x : Value} (pc' : Nat) (hd : decode c.code pc = .ok (.aload_n k, 1)) (hl : Ls[k.val]? = some (.val x)) (hr : x.isRef = true) (hp : pc + 1 = pc') (K : Wp p e s below Q kc ks (T.setTop (mkF m pc' Ls (x :: st)))) : Wp p e s below Q kc ks (T.setTop (mkF m pc Ls st)) := by
  subst hp; exact Wp.step (fun _ k => XS.aloadN X.here hx rfl hd hl hr k) K
theorem W.aload (X : Stand p l e R s m args below meth c T locs cells slots) (hx : p.tables.exec = Jvm.exec) {k : Nat} {x : Value} (pc' : Nat) (hd : decode c.code pc = .ok (.aload k, 2)) (hl : Ls[k]? = some (.val x)) (hr : x.isRef = true) (hp : pc + 2 = pc') (K : Wp p e s below Q kc ks (T.setTop (mkF m pc' Ls (x :: st)))) : Wp p e s below Q kc ks (T.setTop (mkF m pc Ls st)) := by
  subst hp; exact Wp.step (fun _ k => XS.aload X.here hx rfl hd hl hr k) K
theorem W.lloadN (X : Stand p l e R s m args below meth c T locs cells slots) (hx : p.tables.exec = Jvm.exec) {k : Fin 4} {x : Int64} (pc' : Nat) (hd : decode c.code pc = .ok (.lload_n k, 1)) (hl : Ls[k.val]? = some (.val (.long x))) (hp : pc + 1 = pc') (K : Wp p e s below Q kc ks (T.setTop (mkF m pc' Ls (.long x :: st)))) : Wp p e s below Q kc ks (T.setTop (mkF m pc Ls st)) := by
  subst hp; exact Wp.step (fun _ k => XS.lloadN X.here hx rfl hd hl k) K
theorem W.lload (X : Stand p l e R s m args below meth c T locs cells slots) (hx : p.tables.exec = Jvm.exec) {k : Nat} {x : Int64} (pc' : Nat) (hd : decode c.code pc = .ok (.lload k, 2)) (hl : Ls[k]? = some (.val (.long x))) (hp : pc + 2 = pc') (K : Wp p e s below Q kc ks (T.setTop (mkF m pc' Ls (.long x :: st)))) : Wp p e s below Q kc ks (T.setTop (mkF m pc Ls st)) := by
  subst hp; exact Wp.step (fun _ k => XS.lload X.here hx rfl hd hl k) K
theorem W.istoreN (X : Stand p l e R s m args below meth c T locs cells slots) (hx : p.tables.exec = Jvm.exec) {k : Fin 4} {x : Int32} (pc' : Nat) (l' : Array Slot) (hd : decode c.code pc = .ok (.istore_n k, 1)) (hl : storeLocals Ls k.val (.int x) = some l') (hp : pc + 1 = pc') (K : Wp p e s below Q kc ks (T.setTop (mkF m pc' l' st))) : Wp p e s below Q kc ks (T.setTop (mkF m pc Ls (.int x :: st))) := by
  subst hp; exact Wp.step (fun _ k => XS.istoreN X.here hx rfl hd rfl hl k) K
theorem W.istore (X : Stand p l e R s m args below meth c T locs cells slots) (hx : p.tables.exec = Jvm.exec) {k : Nat} {x : Int32} (pc' : Nat) (l' : Array Slot) (hd : decode c.code pc = .ok (.istore k, 2)) (hl : storeLocals Ls k (.int x) = some l') (hp : pc + 2 = pc') (K : Wp p e s below Q kc ks (T.setTop (mkF m pc' l' st))) : Wp p e s below Q kc ks (T.setTop (mkF m pc Ls (.int x :: st))) := by
  subst hp; exact Wp.step (fun _ k => XS.istore X.here hx rfl hd rfl hl k) K
theorem W.astoreN (X : Stand p l e R s m args below meth c T locs cells slots) (hx : p.tables.exec = Jvm.exec) {k : Fin 4} {x : Value} (pc' : Nat) (l' : Array Slot) (hd : decode c.code pc = .ok (.astore_n k, 1)) (hr : x.isRef = true) (hl : storeLocals Ls k.val x = some l') (hp : pc + 1 = pc') (K : Wp p e s below Q kc ks (T.setTop (mkF m pc' l' st))) : Wp p e s below Q kc ks (T.setTop (mkF m pc Ls (x :: st))) := by
  subst hp; exact Wp.step (fun _ k => XS.astoreN X.here hx rfl hd rfl hr hl k) K
theorem W.astore (X : Stand p l e R s m args below meth c T locs cells slots) (hx : p.tables.exec = Jvm.exec) {k : Nat} {x : Value} (pc' : Nat) (l' : Array Slot) (hd : decode c.code pc = .ok (.astore k, 2)) (hr : x.isRef = true) (hl : storeLocals Ls k x = some l') (hp : pc + 2 = pc') (K : Wp p e s below Q kc ks (T.setTop (mkF m pc' l' st))) : Wp p e s below Q kc ks (T.setTop (mkF m pc Ls (x :: st))) := by
  subst hp; exact Wp.step (fun _ k => XS.astore X.here hx rfl hd rfl hr hl k) K
theorem W.lstoreN (X : Stand p l e R s m args below meth c T locs cells slots) (hx : p.tables.exec = Jvm.exec) {k : Fin 4} {x : Int64} (pc' : Nat) (l' : Array Slot) (hd : decode c.code pc = .ok (.lstore_n k, 1)) (hl : storeLocals Ls k.val (.long x) = some l') (hp : pc + 1 = pc') (K : Wp p e s below Q kc ks (T.setTop (mkF m pc' l' st))) : Wp p e s below Q kc ks (T.setTop (mkF m pc Ls (.long x :: st))) := by
  subst hp; exact Wp.step (fun _ k => XS.lstoreN X.here hx rfl hd rfl hl k) K
theorem W.lstore (X : Stand p l e R s m args below meth c T locs cells slots) (hx : p.tables.exec = Jvm.exec) {k : Nat} {x : Int64} (pc' : Nat) (l' : Array Slot) (hd : decode c.code pc = .ok (.lstore k, 2)) (hl : storeLocals Ls k (.long x) = some l') (hp : pc + 2 = pc') (K : Wp p e s below Q kc ks (T.setTop (mkF m pc' l' st))) : Wp p e s below Q kc ks (T.setTop (mkF m pc Ls (.long x :: st))) := by
  subst hp; exact Wp.step (fun _ k => XS.lstore X.here hx rfl hd rfl hl k) K
theorem W.iinc (X : Stand p l e R s m args below meth c T locs cells slots) (hx : p.tables.exec = Jvm.exec) {k : Nat} {i : Int} {x : Int32} (pc' : Nat) (v : Int32) (l' : Array Slot) (hd : decode c.code pc = .ok (.iinc k i, 3)) (hv : Int32.ofInt i = v) (hl : Ls[k]? = some (.val (.int x))) (hl' : storeLocals Ls k (.int (x + v)) = some l') (hp : pc + 3 = pc') (K : Wp p e s below Q kc ks (T.setTop (mkF m pc' l' st))) : Wp p e s below Q kc ks (T.setTop (mkF m pc Ls st)) := by
  subst hp hv; exact Wp.step (fun _ k => XS.iinc X.here hx rfl hd hl hl' k) K
theorem W.iadd (X : Stand p l e R s m args below meth c T locs cells slots) (hx : p.tables.exec = Jvm.exec) {x y : Int32} (pc' : Nat) (hd : decode c.code pc = .ok (.iadd, 1)) (hp : pc + 1 = pc') (K : Wp p e s below Q kc ks (T.setTop (mkF m pc' Ls (.int (x + y) :: st)))) : Wp p e s below Q kc ks (T.setTop (mkF m pc Ls (.int y :: .int x :: st))) := by
  subst hp; exact Wp.step (fun _ k => XS.iadd X.here hx rfl hd rfl k) K
theorem W.ladd (X : Stand p l e R s m args below meth c T locs cells slots) (hx : p.tables.exec = Jvm.exec) {x y : Int64} (pc' : Nat) (hd : decode c.code pc = .ok (.ladd, 1)) (hp : pc + 1 = pc') (K : Wp p e s below Q kc ks (T.setTop (mkF m pc' Ls (.long (x + y) :: st)))) : Wp p e s below Q kc ks (T.setTop (mkF m pc Ls (.long y :: .long x :: st))) := by
  subst hp; exact Wp.step (fun _ k => XS.ladd X.here hx rfl hd rfl k) K
theorem W.isub (X : Stand p l e R s m args below meth c T locs cells slots) (hx : p.tables.exec = Jvm.exec) {x y : Int32} (pc' : Nat) (hd : decode c.code pc = .ok (.isub, 1)) (hp : pc + 1 = pc') (K : Wp p e s below Q kc ks (T.setTop (mkF m pc' Ls (.int (x - y) :: st)))) : Wp p e s below Q kc ks (T.setTop (mkF m pc Ls (.int y :: .int x :: st))) := by
  subst hp; exact Wp.step (fun _ k => XS.isub X.here hx rfl hd rfl k) K
theorem W.lsub (X : Stand p l e R s m args below meth c T locs cells slots) (hx : p.tables.exec = Jvm.exec) {x y : Int64} (pc' : Nat) (hd : decode c.code pc = .ok (.lsub, 1)) (hp : pc + 1 = pc') (K : Wp p e s below Q kc ks (T.setTop (mkF m pc' Ls (.long (x - y) :: st)))) : Wp p e s below Q kc ks (T.setTop (mkF m pc Ls (.long y :: .long x :: st))) := by
  subst hp; exact Wp.step (fun _ k => XS.lsub X.here hx rfl hd rfl k) K
theorem W.imul (X : Stand p l e R s m args below meth c T locs cells slots) (hx : p.tables.exec = Jvm.exec) {x y : Int32} (pc' : Nat) (hd : decode c.code pc = .ok (.imul, 1)) (hp : pc + 1 = pc') (K : Wp p e s below Q kc ks (T.setTop (mkF m pc' Ls (.int (x * y) :: st)))) : Wp p e s below Q kc ks (T.setTop (mkF m pc Ls (.int y :: .int x :: st))) := by
  subst hp; exact Wp.step (fun _ k => XS.imul X.here hx rfl hd rfl k) K
theorem W.lmul (X : Stand p l e R s m args below meth c T locs cells slots) (hx : p.tables.exec = Jvm.exec) {x y : Int64} (pc' : Nat) (hd : decode c.code pc = .ok (.lmul, 1)) (hp : pc + 1 = pc') (K : Wp p e s below Q kc ks (T.setTop (mkF m pc' Ls (.long (x * y) :: st)))) : Wp p e s below Q kc ks (T.setTop (mkF m pc Ls (.long y :: .long x :: st))) := by
  subst hp; exact Wp.step (fun _ k => XS.lmul X.here hx rfl hd rfl k) K
theorem W.iand (X : Stand p l e R s m args below meth c T locs cells slots) (hx : p.tables.exec = Jvm.exec) {x y : Int32} (pc' : Nat) (hd : decode c.code pc = .ok (.iand, 1)) (hp : pc + 1 = pc') (K : Wp p e s below Q kc ks (T.setTop (mkF m pc' Ls (.int (x &&& y) :: st)))) : Wp p e s below Q kc ks (T.setTop (mkF m pc Ls (.int y :: .int x :: st))) := by
  subst hp; exact Wp.step (fun _ k => XS.iand X.here hx rfl hd rfl k) K
theorem W.land (X : Stand p l e R s m args below meth c T locs cells slots) (hx : p.tables.exec = Jvm.exec) {x y : Int64} (pc' : Nat) (hd : decode c.code pc = .ok (.land, 1)) (hp : pc + 1 = pc') (K : Wp p e s below Q kc ks (T.setTop (mkF m pc' Ls (.long (x &&& y) :: st)))) : Wp p e s below Q kc ks (T.setTop (mkF m pc Ls (.long y :: .long x :: st))) := by
  subst hp; exact Wp.step (fun _ k => XS.land X.here hx rfl hd rfl k) K
theorem W.ior (X : Stand p l e R s m args below meth c T locs cells slots) (hx : p.tables.exec = Jvm.exec) {x y : Int32} (pc' : Nat) (hd : decode c.code pc = .ok (.ior, 1)) (hp : pc + 1 = pc') (K : Wp p e s below Q kc ks (T.setTop (mkF m pc' Ls (.int (x ||| y) :: st)))) : Wp p e s below Q kc ks (T.setTop (mkF m pc Ls (.int y :: .int x :: st))) := by
  subst hp; exact Wp.step (fun _ k => XS.ior X.here hx rfl hd rfl k) K
theorem W.lor (X : Stand p l e R s m args below meth c T locs cells slots) (hx : p.tables.exec = Jvm.exec) {x y : Int64} (pc' : Nat) (hd : decode c.code pc = .ok (.lor, 1)) (hp : pc + 1 = pc') (K : Wp p e s below Q kc ks (T.setTop (mkF m pc' Ls (.long (x ||| y) :: st)))) : Wp p e s below Q kc ks (T.setTop (mkF m pc Ls (.long y :: .long x :: st))) := by
  subst hp; exact Wp.step (fun _ k => XS.lor X.here hx rfl hd rfl k) K
theorem W.ixor (X : Stand p l e R s m args below meth c T locs cells slots) (hx : p.tables.exec = Jvm.exec) {x y : Int32} (pc' : Nat) (hd : decode c.code pc = .ok (.ixor, 1)) (hp : pc + 1 = pc') (K : Wp p e s below Q kc ks (T.setTop (mkF m pc' Ls (.int (x ^^^ y) :: st)))) : Wp p e s below Q kc ks (T.setTop (mkF m pc Ls (.int y :: .int x :: st))) := by
  subst hp; exact Wp.step (fun _ k => XS.ixor X.here hx rfl hd rfl k) K
theorem W.lxor (X : Stand p l e R s m args below meth c T locs cells slots) (hx : p.tables.exec = Jvm.exec) {x y : Int64} (pc' : Nat) (hd : decode c.code pc = .ok (.lxor, 1)) (hp : pc + 1 = pc') (K : Wp p e s below Q kc ks (T.setTop (mkF m pc' Ls (.long (x ^^^ y) :: st)))) : Wp p e s below Q kc ks (T.setTop (mkF m pc Ls (.long y :: .long x :: st))) := by
  subst hp; exact Wp.step (fun _ k => XS.lxor X.here hx rfl hd rfl k) K
theorem W.ishl (X : Stand p l e R s m args below meth c T locs cells slots) (hx : p.tables.exec = Jvm.exec) {x y : Int32} (pc' : Nat) (hd : decode c.code pc = .ok (.ishl, 1)) (hp : pc + 1 = pc') (K : Wp p e s below Q kc ks (T.setTop (mkF m pc' Ls (.int (x <<< (y &&& 31)) :: st)))) : Wp p e s below Q kc ks (T.setTop (mkF m pc Ls (.int y :: .int x :: st))) := by
  subst hp; exact Wp.step (fun _ k => XS.ishl X.here hx rfl hd rfl k) K
theorem W.ishr (X : Stand p l e R s m args below meth c T locs cells slots) (hx : p.tables.exec = Jvm.exec) {x y : Int32} (pc' : Nat) (hd : decode c.code pc = .ok (.ishr, 1)) (hp : pc + 1 = pc') (K : Wp p e s below Q kc ks (T.setTop (mkF m pc' Ls (.int (x >>> (y &&& 31)) :: st)))) : Wp p e s below Q kc ks (T.setTop (mkF m pc Ls (.int y :: .int x :: st))) := by
  subst hp; exact Wp.step (fun _ k => XS.ishr X.here hx rfl hd rfl k) K
theorem W.iushr (X : Stand p l e R s m args below meth c T locs cells slots) (hx : p.tables.exec = Jvm.exec) {x y : Int32} (pc' : Nat) (hd : decode c.code pc = .ok (.iushr, 1)) (hp : pc + 1 = pc') (K : Wp p e s below Q kc ks (T.setTop (mkF m pc' Ls (.int ((x.toUInt32 >>> (y &&& 31).toUInt32).toInt32) :: st)))) : Wp p e s below Q kc ks (T.setTop (mkF m pc Ls (.int y :: .int x :: st))) := by
  subst hp; exact Wp.step (fun _ k => XS.iushr X.here hx rfl hd rfl k) K
theorem W.lshl (X : Stand p l e R s m args below meth c T locs cells slots) (hx : p.tables.exec = Jvm.exec) {x : Int64} {y : Int32} (pc' : Nat) (hd : decode c.code pc = .ok (.lshl, 1)) (hp : pc + 1 = pc') (K : Wp p e s below Q kc ks (T.setTop (mkF m pc' Ls (.long (x <<< (y &&& 0x3f).toInt64) :: st)))) : Wp p e s below Q kc ks (T.setTop (mkF m pc Ls (.int y :: .long x :: st))) := by
  subst hp; exact Wp.step (fun _ k => XS.lshl X.here hx rfl hd rfl k) K
theorem W.lshr (X : Stand p l e R s m args below meth c T locs cells slots) (hx : p.tables.exec = Jvm.exec) {x : Int64} {y : Int32} (pc' : Nat) (hd : decode c.code pc = .ok (.lshr, 1)) (hp : pc + 1 = pc') (K : Wp p e s below Q kc ks (T.setTop (mkF m pc' Ls (.long (x >>> (y &&& 0x3f).toInt64) :: st)))) : Wp p e s below Q kc ks (T.setTop (mkF m pc Ls (.int y :: .long x :: st))) := by
  subst hp; exact Wp.step (fun _ k => XS.lshr X.here hx rfl hd rfl k) K
theorem W.lushr (X : Stand p l e R s m args below meth c T locs cells slots) (hx : p.tables.exec = Jvm.exec) {x : Int64} {y : Int32} (pc' : Nat) (hd : decode c.code pc = .ok (.lushr, 1)) (hp : pc + 1 = pc') (K : Wp p e s below Q kc ks (T.setTop (mkF m pc' Ls (.long ((x.toUInt64 >>> (y &&& 0x3f).toInt64.toUInt64).toInt64) :: st)))) : Wp p e s below Q kc ks (T.setTop (mkF m pc Ls (.int y :: .long x :: st))) := by
  subst hp; exact Wp.step (fun _ k => XS.lushr X.here hx rfl hd rfl k) K
theorem W.lcmp (X : Stand p l e R s m args below meth c T locs cells slots) (hx : p.tables.exec = Jvm.exec) {x y : Int64} (pc' : Nat) (hd : decode c.code pc = .ok (.lcmp, 1)) (hp : pc + 1 = pc') (K : Wp p e s below Q kc ks (T.setTop (mkF m pc' Ls (.int (lcmpW x y) :: st)))) : Wp p e s below Q kc ks (T.setTop (mkF m pc Ls (.long y :: .long x :: st))) := by
  subst hp; exact Wp.step (fun _ k => XS.lcmp X.here hx rfl hd rfl k) K
theorem W.irem (X : Stand p l e R s m args below meth c T locs cells slots) (hx : p.tables.exec = Jvm.exec) {x y : Int32} (pc' : Nat) (hd : decode c.code pc = .ok (.irem, 1)) (hy : y ≠ 0) (hp : pc + 1 = pc') (K : Wp p e s below Q kc ks (T.setTop (mkF m pc' Ls (.int (x % y) :: st)))) : Wp p e s below Q kc ks (T.setTop (mkF m pc Ls (.int y :: .int x :: st))) := by
  subst hp; exact Wp.step (fun _ k => iremM X hx (g := mkF m pc Ls (.int y :: .int x :: st)) rfl hd rfl hy k) K
theorem W.idiv (X : Stand p l e R s m args below meth c T locs cells slots) (hx : p.tables.exec = Jvm.exec) {x y : Int32} (pc' : Nat) (hd : decode c.code pc = .ok (.idiv, 1)) (hy : y ≠ 0) (hp : pc + 1 = pc') (K : Wp p e s below Q kc ks (T.setTop (mkF m pc' Ls (.int (x / y) :: st)))) : Wp p e s below Q kc ks (T.setTop (mkF m pc Ls (.int y :: .int x :: st))) := by
  subst hp; exact Wp.step (fun _ k => XS.idiv X.here hx rfl hd rfl hy k) K
theorem W.ineg (X : Stand p l e R s m args below meth c T locs cells slots) (hx : p.tables.exec = Jvm.exec) {x : Int32} (pc' : Nat) (hd : decode c.code pc = .ok (.ineg, 1)) (hp : pc + 1 = pc') (K : Wp p e s below Q kc ks (T.setTop (mkF m pc' Ls (.int (-x) :: st)))) : Wp p e s below Q kc ks (T.setTop (mkF m pc Ls (.int x :: st))) := by
  subst hp; exact Wp.step (fun _ k => XS.ineg X.here hx rfl hd rfl k) K
theorem W.lneg (X : Stand p l e R s m args below meth c T locs cells slots) (hx : p.tables.exec = Jvm.exec) {x : Int64} (pc' : Nat) (hd : decode c.code pc = .ok (.lneg, 1)) (hp : pc + 1 = pc') (K : Wp p e s below Q kc ks (T.setTop (mkF m pc' Ls (.long (-x) :: st)))) : Wp p e s below Q kc ks (T.setTop (mkF m pc Ls (.long x :: st))) := by
  subst hp; exact Wp.step (fun _ k => XS.lneg X.here hx rfl hd rfl k) K
theorem W.i2b (X : Stand p l e R s m args below meth c T locs cells slots) (hx : p.tables.exec = Jvm.exec) {x : Int32} (pc' : Nat) (hd : decode c.code pc = .ok (.i2b, 1)) (hp : pc + 1 = pc') (K : Wp p e s below Q kc ks (T.setTop (mkF m pc' Ls (.int x.toInt8.toInt32 :: st)))) : Wp p e s below Q kc ks (T.setTop (mkF m pc Ls (.int x :: st))) := by
  subst hp; exact Wp.step (fun _ k => XS.i2b X.here hx rfl hd rfl k) K
theorem W.i2c (X : Stand p l e R s m args below meth c T locs cells slots) (hx : p.tables.exec = Jvm.exec) {x : Int32} (pc' : Nat) (hd : decode c.code pc = .ok (.i2c, 1)) (hp : pc + 1 = pc') (K : Wp p e s below Q kc ks (T.setTop (mkF m pc' Ls (.int x.toUInt32.toUInt16.toUInt32.toInt32 :: st)))) : Wp p e s below Q kc ks (T.setTop (mkF m pc Ls (.int x :: st))) := by
  subst hp; exact Wp.step (fun _ k => XS.i2c X.here hx rfl hd rfl k) K
theorem W.i2s (X : Stand p l e R s m args below meth c T locs cells slots) (hx : p.tables.exec = Jvm.exec) {x : Int32} (pc' : Nat) (hd : decode c.code pc = .ok (.i2s, 1)) (hp : pc + 1 = pc') (K : Wp p e s below Q kc ks (T.setTop (mkF m pc' Ls (.int x.toInt16.toInt32 :: st)))) : Wp p e s below Q kc ks (T.setTop (mkF m pc Ls (.int x :: st))) := by
  subst hp; exact Wp.step (fun _ k => XS.i2s X.here hx rfl hd rfl k) K
theorem W.i2l (X : Stand p l e R s m args below meth c T locs cells slots) (hx : p.tables.exec = Jvm.exec) {x : Int32} (pc' : Nat) (hd : decode c.code pc = .ok (.i2l, 1)) (hp : pc + 1 = pc') (K : Wp p e s below Q kc ks (T.setTop (mkF m pc' Ls (.long x.toInt64 :: st)))) : Wp p e s below Q kc ks (T.setTop (mkF m pc Ls (.int x :: st))) := by
  subst hp; exact Wp.step (fun _ k => XS.i2l X.here hx rfl hd rfl k) K
theorem W.l2i (X : Stand p l e R s m args below meth c T locs cells slots) (hx : p.tables.exec = Jvm.exec) {x : Int64} (pc' : Nat) (hd : decode c.code pc = .ok (.l2i, 1)) (hp : pc + 1 = pc') (K : Wp p e s below Q kc ks (T.setTop (mkF m pc' Ls (.int x.toInt32 :: st)))) : Wp p e s below Q kc ks (T.setTop (mkF m pc Ls (.long x :: st))) := by
  subst hp; exact Wp.step (fun _ k => XS.l2i X.here hx rfl hd rfl k) K
theorem W.dup (X : Stand p l e R s m args below meth c T locs cells slots) (hx : p.tables.exec = Jvm.exec) {x : Value} (pc' : Nat) (hd : decode c.code pc = .ok (.dup, 1)) (hc : x.category = 1) (hp : pc + 1 = pc') (K : Wp p e s below Q kc ks (T.setTop (mkF m pc' Ls (x :: x :: st)))) : Wp p e s below Q kc ks (T.setTop (mkF m pc Ls (x :: st))) := by
  subst hp; exact Wp.step (fun _ k => XS.dup X.here hx rfl hd rfl hc k) K
theorem W.pop1 (X : Stand p l e R s m args below meth c T locs cells slots) (hx : p.tables.exec = Jvm.exec) {x : Value} (pc' : Nat) (hd : decode c.code pc = .ok (.pop, 1)) (hc : x.category = 1) (hp : pc + 1 = pc') (K : Wp p e s below Q kc ks (T.setTop (mkF m pc' Ls st))) : Wp p e s below Q kc ks (T.setTop (mkF m pc Ls (x :: st))) := by
  subst hp; exact Wp.step (fun _ k => XS.pop X.here hx rfl hd rfl hc k) K
theorem W.dup2 (X : Stand p l e R s m args below meth c T locs cells slots) (hx : p.tables.exec = Jvm.exec) {x y : Value} (pc' : Nat) (hd : decode c.code pc = .ok (.dup2, 1)) (hc : x.category = 1) (hc' : y.category = 1) (hp : pc + 1 = pc') (K : Wp p e s below Q kc ks (T.setTop (mkF m pc' Ls (x :: y :: x :: y :: st)))) : Wp p e s below Q kc ks (T.setTop (mkF m pc Ls (x :: y :: st))) := by
  subst hp; exact Wp.step (fun _ k => XT.dup2 X.here hx rfl hd rfl hc hc' k) K
theorem W.dupX1 (X : Stand p l e R s m args below meth c T locs cells slots) (hx : p.tables.exec = Jvm.exec) {x y : Value} (pc' : Nat) (hd : decode c.code pc = .ok (.dup_x1, 1)) (hc : x.category = 1) (hc' : y.category = 1) (hp : pc + 1 = pc') (K : Wp p e s below Q kc ks (T.setTop (mkF m pc' Ls (x :: y :: x :: st)))) : Wp p e s below Q kc ks (T.setTop (mkF m pc Ls (x :: y :: st))) := by
  subst hp; exact Wp.step (fun _ k => XS.dupX1 X.here hx rfl hd rfl hc hc' k) K
theorem W.goto (X : Stand p l e R s m args below meth c T locs cells slots) (hx : p.tables.exec = Jvm.exec) {o : Int} (pc' : Nat) (hd : decode c.code pc = .ok (.goto o, 3)) (ho : 0 ≤ (pc : Int) + o) (hp : ((pc : Int) + o).toNat = pc') (K : Wp p e s below Q kc ks (T.setTop (mkF m pc' Ls st))) : Wp p e s below Q kc ks (T.setTop (mkF m pc Ls st)) :=
  Wp.step (fun _ k => XS.goto X.here hx rfl rfl hd ho hp k) K
theorem W.icmp (X : Stand p l e R s m args below meth c T locs cells slots) (hx : p.tables.exec = Jvm.exec) {cd : ClassFile.Cond} {o : Int} {x y : Int32} (pcT pcF : Nat) (hd : decode c.code pc = .ok (.if_icmp cd o, 3)) (ho : 0 ≤ (pc : Int) + o) (hp : ((pc : Int) + o).toNat = pcT) (hq : pc + 3 = pcF) (KT : if_icmp.holds cd x y = true → Wp p e s below Q kc ks (T.setTop (mkF m pcT Ls st))) (KF : if_icmp.holds cd x y = false → Wp p e s below Q kc ks (T.setTop (mkF m pcF Ls st))) : Wp p e s below Q kc ks (T.setTop (mkF m pc Ls (.int y :: .int x :: st))) := by
  subst hq
  cases hh : if_icmp.holds cd x y
  · exact Wp.step (fun _ k => XS.icmpNo X.here hx rfl hd rfl hh k) (KF hh)
  · exact Wp.step (fun _ k => XS.icmpYes X.here hx rfl rfl hd rfl hh ho hp k) (KT hh)
theorem W.ifc (X : Stand p l e R s m args below meth c T locs cells slots) (hx : p.tables.exec = Jvm.exec) {cd : ClassFile.Cond} {o : Int} {x : Int32} (pcT pcF : Nat) (hd : decode c.code pc = .ok (.ifCond cd o, 3)) (ho : 0 ≤ (pc : Int) + o) (hp : ((pc : Int) + o).toNat = pcT) (hq : pc + 3 = pcF) (KT : if_icmp.holds cd x 0 = true → Wp p e s below Q kc ks (T.setTop (mkF m pcT Ls st))) (KF : if_icmp.holds cd x 0 = false → Wp p e s below Q kc ks (T.setTop (mkF m pcF Ls st))) : Wp p e s below Q kc ks (T.setTop (mkF m pc Ls (.int x :: st))) := by
  subst hq
  rw [← if0] at KT KF
  cases hh : ifCond.holds cd x
  · exact Wp.step (fun _ k => XS.ifNo X.here hx rfl hd rfl hh k) (KF hh)
  · exact Wp.step (fun _ k => XS.ifYes X.here hx rfl rfl hd rfl hh ho hp k) (KT hh)
theorem W.icmpEq (X : Stand p l e R s m args below meth c T locs cells slots) (hx : p.tables.exec = Jvm.exec) {o : Int} {x y : Int32} (pcT pcF : Nat) (hd : decode c.code pc = .ok (.if_icmp .eq o, 3)) (ho : 0 ≤ (pc : Int) + o) (hp : ((pc : Int) + o).toNat = pcT) (hq : pc + 3 = pcF) (KT : x = y → Wp p e s below Q kc ks (T.setTop (mkF m pcT Ls st))) (KF : ¬ x = y → Wp p e s below Q kc ks (T.setTop (mkF m pcF Ls st))) : Wp p e s below Q kc ks (T.setTop (mkF m pc Ls (.int y :: .int x :: st))) :=
  W.icmp X hx pcT pcF hd ho hp hq (fun hh => KT (Decidable.byContradiction fun q => by rw [(feq q).1] at hh; cases hh)) (fun hh => KF (fun q => by rw [(teq q).1] at hh; cases hh))
theorem W.ifEq (X : Stand p l e R s m args below meth c T locs cells slots) (hx : p.tables.exec = Jvm.exec) {o : Int} {x : Int32} (pcT pcF : Nat) (hd : decode c.code pc = .ok (.ifCond .eq o, 3)) (ho : 0 ≤ (pc : Int) + o) (hp : ((pc : Int) + o).toNat = pcT) (hq : pc + 3 = pcF) (KT : x = 0 → Wp p e s below Q kc ks (T.setTop (mkF m pcT Ls st))) (KF : ¬ x = 0 → Wp p e s below Q kc ks (T.setTop (mkF m pcF Ls st))) : Wp p e s below Q kc ks (T.setTop (mkF m pc Ls (.int x :: st))) :=
  W.ifc X hx pcT pcF hd ho hp hq (fun hh => KT (Decidable.byContradiction fun q => by rw [(feq q).1] at hh; cases hh)) (fun hh => KF (fun q => by rw [(teq q).1] at hh; cases hh))
theorem W.icmpNe (X : Stand p l e R s m args below meth c T locs cells slots) (hx : p.tables.exec = Jvm.exec) {o : Int} {x y : Int32} (pcT pcF : Nat) (hd : decode c.code pc = .ok (.if_icmp .ne o, 3)) (ho : 0 ≤ (pc : Int) + o) (hp : ((pc : Int) + o).toNat = pcT) (hq : pc + 3 = pcF) (KT : ¬ x = y → Wp p e s below Q kc ks (T.setTop (mkF m pcT Ls st))) (KF : x = y → Wp p e s below Q kc ks (T.setTop (mkF m pcF Ls st))) : Wp p e s below Q kc ks (T.setTop (mkF m pc Ls (.int y :: .int x :: st))) :=
  W.icmp X hx pcT pcF hd ho hp hq (fun hh => KT (fun q => by rw [(teq q).2] at hh; cases hh)) (fun hh => KF (Decidable.byContradiction fun q => by rw [(feq q).2] at hh; cases hh))
theorem W.ifNe (X : Stand p l e R s m args below meth c T locs cells slots) (hx : p.tables.exec = Jvm.exec) {o : Int} {x : Int32} (pcT pcF : Nat) (hd : decode c.code pc = .ok (.ifCond .ne o, 3)) (ho : 0 ≤ (pc : Int) + o) (hp : ((pc : Int) + o).toNat = pcT) (hq : pc + 3 = pcF) (KT : ¬ x = 0 → Wp p e s below Q kc ks (T.setTop (mkF m pcT Ls st))) (KF : x = 0 → Wp p e s below Q kc ks (T.setTop (mkF m pcF Ls st))) : Wp p e s below Q kc ks (T.setTop (mkF m pc Ls (.int x :: st))) :=
  W.ifc X hx pcT pcF hd ho hp hq (fun hh => KT (fun q => by rw [(teq q).2] at hh; cases hh)) (fun hh => KF (Decidable.byContradiction fun q => by rw [(feq q).2] at hh; cases hh))
theorem W.icmpLt (X : Stand p l e R s m args below meth c T locs cells slots) (hx : p.tables.exec = Jvm.exec) {o : Int} {x y : Int32} (pcT pcF : Nat) (hd : decode c.code pc = .ok (.if_icmp .lt o, 3)) (ho : 0 ≤ (pc : Int) + o) (hp : ((pc : Int) + o).toNat = pcT) (hq : pc + 3 = pcF) (KT : x < y → Wp p e s below Q kc ks (T.setTop (mkF m pcT Ls st))) (KF : ¬ x < y → Wp p e s below Q kc ks (T.setTop (mkF m pcF Ls st))) : Wp p e s below Q kc ks (T.setTop (mkF m pc Ls (.int y :: .int x :: st))) :=
  W.icmp X hx pcT pcF hd ho hp hq (fun hh => KT (Decidable.byContradiction fun q => by rw [(flt q).1] at hh; cases hh)) (fun hh => KF (fun q => by rw [(tlt q).1] at hh; cases hh))
theorem W.ifLt (X : Stand p l e R s m args below meth c T locs cells slots) (hx : p.tables.exec = Jvm.exec) {o : Int} {x : Int32} (pcT pcF : Nat) (hd : decode c.code pc = .ok (.ifCond .lt o, 3)) (ho : 0 ≤ (pc : Int) + o) (hp : ((pc : Int) + o).toNat = pcT) (hq : pc + 3 = pcF) (KT : x < 0 → Wp p e s below Q kc ks (T.setTop (mkF m pcT Ls st))) (KF : ¬ x < 0 → Wp p e s below Q kc ks (T.setTop (mkF m pcF Ls st))) : Wp p e s below Q kc ks (T.setTop (mkF m pc Ls (.int x :: st))) :=
  W.ifc X hx pcT pcF hd ho hp hq (fun hh => KT (Decidable.byContradiction fun q => by rw [(flt q).1] at hh; cases hh)) (fun hh => KF (fun q => by rw [(tlt q).1] at hh; cases hh))
theorem W.icmpGe (X : Stand p l e R s m args below meth c T locs cells slots) (hx : p.tables.exec = Jvm.exec) {o : Int} {x y : Int32} (pcT pcF : Nat) (hd : decode c.code pc = .ok (.if_icmp .ge o, 3)) (ho : 0 ≤ (pc : Int) + o) (hp : ((pc : Int) + o).toNat = pcT) (hq : pc + 3 = pcF) (KT : ¬ x < y → Wp p e s below Q kc ks (T.setTop (mkF m pcT Ls st))) (KF : x < y → Wp p e s below Q kc ks (T.setTop (mkF m pcF Ls st))) : Wp p e s below Q kc ks (T.setTop (mkF m pc Ls (.int y :: .int x :: st))) :=
  W.icmp X hx pcT pcF hd ho hp hq (fun hh => KT (fun q => by rw [(tlt q).2.1] at hh; cases hh)) (fun hh => KF (Decidable.byContradiction fun q => by rw [(flt q).2.1] at hh; cases hh))
theorem W.ifGe (X : Stand p l e R s m args below meth c T locs cells slots) (hx : p.tables.exec = Jvm.exec) {o : Int} {x : Int32} (pcT pcF : Nat) (hd : decode c.code pc = .ok (.ifCond .ge o, 3)) (ho : 0 ≤ (pc : Int) + o) (hp : ((pc : Int) + o).toNat = pcT) (hq : pc + 3 = pcF) (KT : ¬ x < 0 → Wp p e s below Q kc ks (T.setTop (mkF m pcT Ls st))) (KF : x < 0 → Wp p e s below Q kc ks (T.setTop (mkF m pcF Ls st))) : Wp p e s below Q kc ks (T.setTop (mkF m pc Ls (.int x :: st))) :=
  W.ifc X hx pcT pcF hd ho hp hq (fun hh => KT (fun q => by rw [(tlt q).2.1] at hh; cases hh)) (fun hh => KF (Decidable.byContradiction fun q => by rw [(flt q).2.1] at hh; cases hh))
theorem W.icmpGt (X : Stand p l e R s m args below meth c T locs cells slots) (hx : p.tables.exec = Jvm.exec) {o : Int} {x y : Int32} (pcT pcF : Nat) (hd : decode c.code pc = .ok (.if_icmp .gt o, 3)) (ho : 0 ≤ (pc : Int) + o) (hp : ((pc : Int) + o).toNat = pcT) (hq : pc + 3 = pcF) (KT : y < x → Wp p e s below Q kc ks (T.setTop (mkF m pcT Ls st))) (KF : ¬ y < x → Wp p e s below Q kc ks (T.setTop (mkF m pcF Ls st))) : Wp p e s below Q kc ks (T.setTop (mkF m pc Ls (.int y :: .int x :: st))) :=
  W.icmp X hx pcT pcF hd ho hp hq (fun hh => KT (Decidable.byContradiction fun q => by rw [(flt q).2.2.1] at hh; cases hh)) (fun hh => KF (fun q => by rw [(tlt q).2.2.1] at hh; cases hh))
theorem W.ifGt (X : Stand p l e R s m args below meth c T locs cells slots) (hx : p.tables.exec = Jvm.exec) {o : Int} {x : Int32} (pcT pcF : Nat) (hd : decode c.code pc = .ok (.ifCond .gt o, 3)) (ho : 0 ≤ (pc : Int) + o) (hp : ((pc : Int) + o).toNat = pcT) (hq : pc + 3 = pcF) (KT : 0 < x → Wp p e s below Q kc ks (T.setTop (mkF m pcT Ls st))) (KF : ¬ 0 < x → Wp p e s below Q kc ks (T.setTop (mkF m pcF Ls st))) : Wp p e s below Q kc ks (T.setTop (mkF m pc Ls (.int x :: st))) :=
  W.ifc X hx pcT pcF hd ho hp hq (fun hh => KT (Decidable.byContradiction fun q => by rw [(flt q).2.2.1] at hh; cases hh)) (fun hh => KF (fun q => by rw [(tlt q).2.2.1] at hh; cases hh))
theorem W.icmpLe (X : Stand p l e R s m args below meth c T locs cells slots) (hx : p.tables.exec = Jvm.exec) {o : Int} {x y : Int32} (pcT pcF : Nat) (hd : decode c.code pc = .ok (.if_icmp .le o, 3)) (ho : 0 ≤ (pc : Int) + o) (hp : ((pc : Int) + o).toNat = pcT) (hq : pc + 3 = pcF) (KT : ¬ y < x → Wp p e s below Q kc ks (T.setTop (mkF m pcT Ls st))) (KF : y < x → Wp p e s below Q kc ks (T.setTop (mkF m pcF Ls st))) : Wp p e s below Q kc ks (T.setTop (mkF m pc Ls (.int y :: .int x :: st))) :=
  W.icmp X hx pcT pcF hd ho hp hq (fun hh => KT (fun q => by rw [(tlt q).2.2.2] at hh; cases hh)) (fun hh => KF (Decidable.byContradiction fun q => by rw [(flt q).2.2.2] at hh; cases hh))
theorem W.ifLe (X : Stand p l e R s m args below meth c T locs cells slots) (hx : p.tables.exec = Jvm.exec) {o : Int} {x : Int32} (pcT pcF : Nat) (hd : decode c.code pc = .ok (.ifCond .le o, 3)) (ho : 0 ≤ (pc : Int) + o) (hp : ((pc : Int) + o).toNat = pcT) (hq : pc + 3 = pcF) (KT : ¬ 0 < x → Wp p e s below Q kc ks (T.setTop (mkF m pcT Ls st))) (KF : 0 < x → Wp p e s below Q kc ks (T.setTop (mkF m pcF Ls st))) : Wp p e s below Q kc ks (T.setTop (mkF m pc Ls (.int x :: st))) :=
  W.ifc X hx pcT pcF hd ho hp hq (fun hh => KT (fun q => by rw [(tlt q).2.2.2] at hh; cases hh)) (fun hh => KF (Decidable.byContradiction fun q => by rw [(flt q).2.2.2] at hh; cases hh))
theorem W.lifEq (X : Stand p l e R s m args below meth c T locs cells slots) (hx : p.tables.exec = Jvm.exec) {o : Int} {x y : Int64} (pcT pcF : Nat) (hd : decode c.code pc = .ok (.ifCond .eq o, 3)) (ho : 0 ≤ (pc : Int) + o) (hp : ((pc : Int) + o).toNat = pcT) (hq : pc + 3 = pcF) (KT : x = y → Wp p e s below Q kc ks (T.setTop (mkF m pcT Ls st))) (KF : ¬ x = y → Wp p e s below Q kc ks (T.setTop (mkF m pcF Ls st))) : Wp p e s below Q kc ks (T.setTop (mkF m pc Ls (.int (lcmpW x y) :: st))) :=
  W.ifEq X hx pcT pcF hd ho hp hq (fun q => KT ((lw_eq x y).mp q)) (fun q => KF (fun r => q ((lw_eq x y).mpr r)))
theorem W.lifNe (X : Stand p l e R s m args below meth c T locs cells slots) (hx : p.tables.exec = Jvm.exec) {o : Int} {x y : Int64} (pcT pcF : Nat) (hd : decode c.code pc = .ok (.ifCond .ne o, 3)) (ho : 0 ≤ (pc : Int) + o) (hp : ((pc : Int) + o).toNat = pcT) (hq : pc + 3 = pcF) (KT : ¬ x = y → Wp p e s below Q kc ks (T.setTop (mkF m pcT Ls st))) (KF : x = y → Wp p e s below Q kc ks (T.setTop (mkF m pcF Ls st))) : Wp p e s below Q kc ks (T.setTop (mkF m pc Ls (.int (lcmpW x y) :: st))) :=
  W.ifNe X hx pcT pcF hd ho hp hq (fun q => KT (fun r => q ((lw_eq x y).mpr r))) (fun q => KF ((lw_eq x y).mp q))
theorem W.lifLt (X : Stand p l e R s m args below meth c T locs cells slots) (hx : p.tables.exec = Jvm.exec) {o : Int} {x y : Int64} (pcT pcF : Nat) (hd : decode c.code pc = .ok (.ifCond .lt o, 3)) (ho : 0 ≤ (pc : Int) + o) (hp : ((pc : Int) + o).toNat = pcT) (hq : pc + 3 = pcF) (KT : x < y → Wp p e s below Q kc ks (T.setTop (mkF m pcT Ls st))) (KF : ¬ x < y → Wp p e s below Q kc ks (T.setTop (mkF m pcF Ls st))) : Wp p e s below Q kc ks (T.setTop (mkF m pc Ls (.int (lcmpW x y) :: st))) :=
  W.ifLt X hx pcT pcF hd ho hp hq (fun q => KT ((lw_lt x y).mp q)) (fun q => KF (fun r => q ((lw_lt x y).mpr r)))
theorem W.lifGe (X : Stand p l e R s m args below meth c T locs cells slots) (hx : p.tables.exec = Jvm.exec) {o : Int} {x y : Int64} (pcT pcF : Nat) (hd : decode c.code pc = .ok (.ifCond .ge o, 3)) (ho : 0 ≤ (pc : Int) + o) (hp : ((pc : Int) + o).toNat = pcT) (hq : pc + 3 = pcF) (KT : ¬ x < y → Wp p e s below Q kc ks (T.setTop (mkF m pcT Ls st))) (KF : x < y → Wp p e s below Q kc ks (T.setTop (mkF m pcF Ls st))) : Wp p e s below Q kc ks (T.setTop (mkF m pc Ls (.int (lcmpW x y) :: st))) :=
  W.ifGe X hx pcT pcF hd ho hp hq (fun q => KT (fun r => q ((lw_lt x y).mpr r))) (fun q => KF ((lw_lt x y).mp q))
theorem W.lifGt (X : Stand p l e R s m args below meth c T locs cells slots) (hx : p.tables.exec = Jvm.exec) {o : Int} {x y : Int64} (pcT pcF : Nat) (hd : decode c.code pc = .ok (.ifCond .gt o, 3)) (ho : 0 ≤ (pc : Int) + o) (hp : ((pc : Int) + o).toNat = pcT) (hq : pc + 3 = pcF) (KT : y < x → Wp p e s below Q kc ks (T.setTop (mkF m pcT Ls st))) (KF : ¬ y < x → Wp p e s below Q kc ks (T.setTop (mkF m pcF Ls st))) : Wp p e s below Q kc ks (T.setTop (mkF m pc Ls (.int (lcmpW x y) :: st))) :=
  W.ifGt X hx pcT pcF hd ho hp hq (fun q => KT ((lw_gt x y).mp q)) (fun q => KF (fun r => q ((lw_gt x y).mpr r)))
theorem W.lifLe (X : Stand p l e R s m args below meth c T locs cells slots) (hx : p.tables.exec = Jvm.exec) {o : Int} {x y : Int64} (pcT pcF : Nat) (hd : decode c.code pc = .ok (.ifCond .le o, 3)) (ho : 0 ≤ (pc : Int) + o) (hp : ((pc : Int) + o).toNat = pcT) (hq : pc + 3 = pcF) (KT : ¬ y < x → Wp p e s below Q kc ks (T.setTop (mkF m pcT Ls st))) (KF : y < x → Wp p e s below Q kc ks (T.setTop (mkF m pcF Ls st))) : Wp p e s below Q kc ks (T.setTop (mkF m pc Ls (.int (lcmpW x y) :: st))) :=
  W.ifLe X hx pcT pcF hd ho hp hq (fun q => KT (fun r => q ((lw_gt x y).mpr r))) (fun q => KF ((lw_gt x y).mp q))
theorem W.nonnullR (X : Stand p l e R s m args below meth c T locs cells slots) (hx : p.tables.exec = Jvm.exec) {o : Int} {b : Addr} (pcT : Nat) (hd : decode c.code pc = .ok (.ifnonnull o, 3)) (ho : 0 ≤ (pc : Int) + o) (hp : ((pc : Int) + o).toNat = pcT) (K : Wp p e s below Q kc ks (T.setTop (mkF m pcT Ls st))) : Wp p e s below Q kc ks (T.setTop (mkF m pc Ls (.ref b :: st))) :=
  Wp.step (fun _ k => XS.ifnonnullYes X.here hx rfl rfl hd rfl ho hp k) K
theorem W.nonnullN (X : Stand p l e R s m args below meth c T locs cells slots) (hx : p.tables.exec = Jvm.exec) {o : Int} (pc' : Nat) (hd : decode c.code pc = .ok (.ifnonnull o, 3)) (hp : pc + 3 = pc') (K : Wp p e s below Q kc ks (T.setTop (mkF m pc' Ls st))) : Wp p e s below Q kc ks (T.setTop (mkF m pc Ls (.null :: st))) := by
  subst hp; exact Wp.step (fun _ k => XS.ifnonnullNo X.here hx rfl hd rfl k) K
theorem W.nullN (X : Stand p l e R s m args below meth c T locs cells slots) (hx : p.tables.exec = Jvm.exec) {o : Int} (pcT : Nat) (hd : decode c.code pc = .ok (.ifnull o, 3)) (ho : 0 ≤ (pc : Int) + o) (hp : ((pc : Int) + o).toNat = pcT) (K : Wp p e s below Q kc ks (T.setTop (mkF m pcT Ls st))) : Wp p e s below Q kc ks (T.setTop (mkF m pc Ls (.null :: st))) :=
  Wp.step (fun _ k => XS.ifnullYes X.here hx rfl rfl hd rfl ho hp k) K
theorem W.nullR (X : Stand p l e R s m args below meth c T locs cells slots) (hx : p.tables.exec = Jvm.exec) {o : Int} {b : Addr} (pc' : Nat) (hd : decode c.code pc = .ok (.ifnull o, 3)) (hp : pc + 3 = pc') (K : Wp p e s below Q kc ks (T.setTop (mkF m pc' Ls st))) : Wp p e s below Q kc ks (T.setTop (mkF m pc Ls (.ref b :: st))) := by
  subst hp; exact Wp.step (fun _ k => XS.ifnullNo X.here hx rfl hd rfl k) K
theorem W.acmpE (X : Stand p l e R s m args below meth c T locs cells slots) (hx : p.tables.exec = Jvm.exec) {o : Int} {x y : Value} (pcT pcF : Nat) (h1 : x.isRef = true) (h2 : y.isRef = true) (hd : decode c.code pc = .ok (.if_acmp .eq o, 3)) (ho : 0 ≤ (pc : Int) + o) (hp : ((pc : Int) + o).toNat = pcT) (hq : pc + 3 = pcF) (KT : x = y → Wp p e s below Q kc ks (T.setTop (mkF m pcT Ls st))) (KF : ¬ x = y → Wp p e s below Q kc ks (T.setTop (mkF m pcF Ls st))) : Wp p e s below Q kc ks (T.setTop (mkF m pc Ls (y :: x :: st))) := by
  by_cases q : x = y
  · exact Wp.step (fun _ k => acmp X hx (g := mkF m pc Ls (y :: x :: st)) rfl h1 h2 rfl hd rfl (same := true) (by simp [q]) ho (pc' := pcT) (by simp [acV, hp]) k) (KT q)
  · exact Wp.step (fun _ k => acmp X hx (g := mkF m pc Ls (y :: x :: st)) rfl h1 h2 rfl hd rfl (same := false) (by simp [q]) ho (pc' := pcF) (by simp [acV, hq]) k) (KF q)
theorem W.acmpN (X : Stand p l e R s m args below meth c T locs cells slots) (hx : p.tables.exec = Jvm.exec) {o : Int} {x y : Value} (pcT pcF : Nat) (h1 : x.isRef = true) (h2 : y.isRef = true) (hd : decode c.code pc = .ok (.if_acmp .ne o, 3)) (ho : 0 ≤ (pc : Int) + o) (hp : ((pc : Int) + o).toNat = pcT) (hq : pc + 3 = pcF) (KT : ¬ x = y → Wp p e s below Q kc ks (T.setTop (mkF m pcT Ls st))) (KF : x = y → Wp p e s below Q kc ks (T.setTop (mkF m pcF Ls st))) : Wp p e s below Q kc ks (T.setTop (mkF m pc Ls (y :: x :: st))) := by
  by_cases q : x = y
  · exact Wp.step (fun _ k => acmp X hx (g := mkF m pc Ls (y :: x :: st)) rfl h1 h2 rfl hd rfl (same := true) (by simp [q]) ho (pc' := pcF) (by simp [acV, hq]) k) (KF q)
  · exact Wp.step (fun _ k => acmp X hx (g := mkF m pc Ls (y :: x :: st)) rfl h1 h2 rfl hd rfl (same := false) (by simp [q]) ho (pc' := pcT) (by simp [acV, hp]) k) (KT q)
theorem W.newarr (X : Stand p l e R s m args below meth c T locs cells slots) (hx : p.tables.exec = Jvm.exec) (hZ : Z.Warmed39 s.vm) {aty : ArrayType} {z : Int32} (pc' : Nat) (k cap : Nat) (w : (Jvm.Cond.arrayClass (newarray.typeOf aty)).before a0 Z = true) (eT : T.heap = h) (hd : decode c.code pc = .ok (.newarray aty, 2)) (hz : z.toInt = (k : Int)) (hcap : k ≤ cap) (hb : cap * 8 ≤ 536870912) (hc : cells + 1 ≤ R.cells) (hl : slots + cap ≤ R.slots) (hp : pc + 2 = pc')
    (K : ∀ T' h', Stand p l e R s m args below meth c T' locs (cells + 1) (slots + cap) → T'.heap = h' → Ext h h' → IArr Z h' h.size (newarray.typeOf aty) k (fun _ => defaultValue (newarray.typeOf aty)) → Wp p e s below Q kc ks (T'.setTop (mkF m pc' Ls (.ref h.size :: st)))) : Wp p e s below Q kc ks (T.setTop (mkF m pc Ls (.int z :: st))) := by
  subst hp
  obtain ⟨q1, q2⟩ := nat_of hz
  obtain ⟨T', h', cA, X', e', E, A, stp⟩ := newP X hx hZ w eT (g := mkF m pc Ls (.int z :: st)) rfl hd rfl q1 (cap := cap) (by omega) hb hc hl
  exact Wp.step stp (K T' h' X' e' E (IArr.fresh A q2))
theorem IArr.inb {j : Int32} {i : Nat} {cl : Cell} (S : cl.slots.size = n) (hj : j.toInt = (i : Int)) (hi : i < n) : ¬ (j < 0 ∨ cl.slots.size ≤ j.toNatClampNeg) := by
  obtain ⟨q1, q2⟩ := nat_of hj
  rw [S, q2]; intro q; rcases q with q | q
  · exact q1 q
  · omega
theorem W.arrlen (X : Stand p l e R s m args below meth c T locs cells slots) (hx : p.tables.exec = Jvm.exec) (hZ : Z.Warmed39 s.vm) (pc' : Nat) (eT : T.heap = h) (A : IArr Z h a ty n f) (v : Int32) (hv : n.toInt32 = v) (hd : decode c.code pc = .ok (.arraylength, 1)) (hp : pc + 1 = pc') (K : Wp p e s below Q kc ks (T.setTop (mkF m pc' Ls (.int v :: st)))) : Wp p e s below Q kc ks (T.setTop (mkF m pc Ls (.ref a :: st))) := by
  subst hp hv
  obtain ⟨cl, A, S, H⟩ := A
  subst S
  exact Wp.step (fun t k => X.arraylength hx (by rw [eT]; exact A.1) (State.isArrayOf_alike hZ.alike A.2.1) (g := mkF m pc Ls (.ref a :: st)) rfl rfl hd t k) K
theorem W.iaload (X : Stand p l e R s m args below meth c T locs cells slots) (hx : p.tables.exec = Jvm.exec) (hZ : Z.Warmed39 s.vm) {j : Int32} (pc' : Nat) (i : Nat) (v : Value) (eT : T.heap = h) (A : IArr Z h a .int n f) (hj : j.toInt = (i : Int)) (hi : i < n) (hv : f i = v) (hd : decode c.code pc = .ok (.iaload, 1)) (hp : pc + 1 = pc') (K : Wp p e s below Q kc ks (T.setTop (mkF m pc' Ls (v :: st)))) : Wp p e s below Q kc ks (T.setTop (mkF m pc Ls (.int j :: .ref a :: st))) := by
  subst hp hv
  obtain ⟨cl, A, S, H⟩ := A
  exact Wp.step (fun t k => X.iaload hx (by rw [eT]; exact A.1) (State.isArrayOf_alike hZ.alike A.2.1) A.2.2 (IArr.inb S hj hi) (by rw [(nat_of hj).2]; exact H i hi) (g := mkF m pc Ls (.int j :: .ref a :: st)) rfl rfl hd t k) K
theorem W.laload (X : Stand p l e R s m args below meth c T locs cells slots) (hx : p.tables.exec = Jvm.exec) (hZ : Z.Warmed39 s.vm) {j : Int32} (pc' : Nat) (i : Nat) (v : Value) (eT : T.heap = h) (A : IArr Z h a .long n f) (hj : j.toInt = (i : Int)) (hi : i < n) (hv : f i = v) (hd : decode c.code pc = .ok (.laload, 1)) (hp : pc + 1 = pc') (K : Wp p e s below Q kc ks (T.setTop (mkF m pc' Ls (v :: st)))) : Wp p e s below Q kc ks (T.setTop (mkF m pc Ls (.int j :: .ref a :: st))) := by
  subst hp hv
  obtain ⟨cl, A, S, H⟩ := A
  exact Wp.step (fun t k => X.laload hx (by rw [eT]; exact A.1) (State.isArrayOf_alike hZ.alike A.2.1) A.2.2 (IArr.inb S hj hi) (by rw [(nat_of hj).2]; exact H i hi) (g := mkF m pc Ls (.int j :: .ref a :: st)) rfl rfl hd t k) K
theorem W.caload (X : Stand p l e R s m args below meth c T locs cells slots) (hx : p.tables.exec = Jvm.exec) (hZ : Z.Warmed39 s.vm) {j : Int32} (pc' : Nat) (i : Nat) (v : Value) (eT : T.heap = h) (A : IArr Z h a .char n f) (hj : j.toInt = (i : Int)) (hi : i < n) (hv : f i = v) (hd : decode c.code pc = .ok (.caload, 1)) (hp : pc + 1 = pc') (K : Wp p e s below Q kc ks (T.setTop (mkF m pc' Ls (v :: st)))) : Wp p e s below Q kc ks (T.setTop (mkF m pc Ls (.int j :: .ref a :: st))) := by
  subst hp hv
  obtain ⟨cl, A, S, H⟩ := A
  exact Wp.step (fun t k => X.caload hx (by rw [eT]; exact A.1) (State.isArrayOf_alike hZ.alike A.2.1) A.2.2 (IArr.inb S hj hi) (by rw [(nat_of hj).2]; exact H i hi) (g := mkF m pc Ls (.int j :: .ref a :: st)) rfl rfl hd t k) K
theorem W.baload (X : Stand p l e R s m args below meth c T locs cells slots) (hx : p.tables.exec = Jvm.exec) (hZ : Z.Warmed39 s.vm) {j : Int32} (pc' : Nat) (i : Nat) (v : Value) (eT : T.heap = h) (A : IArr Z h a .byte n f) (hj : j.toInt = (i : Int)) (hi : i < n) (hv : f i = v) (hd : decode c.code pc = .ok (.baload, 1)) (hp : pc + 1 = pc') (K : Wp p e s below Q kc ks (T.setTop (mkF m pc' Ls (v :: st)))) : Wp p e s below Q kc ks (T.setTop (mkF m pc Ls (.int j :: .ref a :: st))) := by
  subst hp hv
  obtain ⟨cl, A, S, H⟩ := A
  exact Wp.step (fun t k => X.baloadBytes hx (by rw [eT]; exact A.1) (State.isArrayOf_alike hZ.alike A.2.1) A.2.2 (IArr.inb S hj hi) (by rw [(nat_of hj).2]; exact H i hi) (g := mkF m pc Ls (.int j :: .ref a :: st)) rfl rfl hd t k) K
theorem W.zaload (X : Stand p l e R s m args below meth c T locs cells slots) (hx : p.tables.exec = Jvm.exec) (hZ : Z.Warmed39 s.vm) {j : Int32} (pc' : Nat) (i : Nat) (v : Value) (eT : T.heap = h) (A : IArr Z h a .boolean n f) (hj : j.toInt = (i : Int)) (hi : i < n) (hv : f i = v) (hd : decode c.code pc = .ok (.baload, 1)) (hp : pc + 1 = pc') (K : Wp p e s below Q kc ks (T.setTop (mkF m pc' Ls (v :: st)))) : Wp p e s below Q kc ks (T.setTop (mkF m pc Ls (.int j :: .ref a :: st))) := by
  subst hp hv
  obtain ⟨cl, A, S, H⟩ := A
  exact Wp.step (fun t k => X.baloadBooleans hx (by rw [eT]; exact A.1) (State.isArrayOf_alike hZ.alike A.2.1) A.2.2 (IArr.inb S hj hi) (by rw [(nat_of hj).2]; exact H i hi) (g := mkF m pc Ls (.int j :: .ref a :: st)) rfl rfl hd t k) K
theorem W.aaload (X : Stand p l e R s m args below meth c T locs cells slots) (hx : p.tables.exec = Jvm.exec) (hZ : Z.Warmed39 s.vm) {j : Int32} (pc' : Nat) (i : Nat) (v : Value) (eT : T.heap = h) (A : IArr Z h a ty n f) (hty : ty.isReference = true) (hj : j.toInt = (i : Int)) (hi : i < n) (hv : f i = v) (hd : decode c.code pc = .ok (.aaload, 1)) (hp : pc + 1 = pc') (K : Wp p e s below Q kc ks (T.setTop (mkF m pc' Ls (v :: st)))) : Wp p e s below Q kc ks (T.setTop (mkF m pc Ls (.int j :: .ref a :: st))) := by
  subst hp hv
  obtain ⟨cl, A, S, H⟩ := A
  exact Wp.step (fun t k => X.aaload hx (by rw [eT]; exact A.1) (State.isArrayOf_alike hZ.alike A.2.1) hty A.2.2 (IArr.inb S hj hi) (by rw [(nat_of hj).2]; exact H i hi) (g := mkF m pc Ls (.int j :: .ref a :: st)) rfl rfl hd t k) K
theorem W.iastore (X : Stand p l e R s m args below meth c T locs cells slots) (hx : p.tables.exec = Jvm.exec) (hZ : Z.Warmed39 s.vm) {j : Int32} {x : Int32} (pc' : Nat) (i : Nat) (eT : T.heap = h) (A : IArr Z h a .int n f) (hj : j.toInt = (i : Int)) (hi : i < n) (hd : decode c.code pc = .ok (.iastore, 1)) (hp : pc + 1 = pc')
    (K : ∀ T' h', Stand p l e R s m args below meth c T' (locs ++ [⟨a, i⟩]) cells slots → T'.heap = h' → Wr h h' a i (.int x) → IArr Z h' a .int n (upd f i (.int x)) → Wp p e s below Q kc ks (T'.setTop (mkF m pc' Ls st))) : Wp p e s below Q kc ks (T.setTop (mkF m pc Ls (.int x :: .int j :: .ref a :: st))) := by
  subst hp
  obtain ⟨cl, A0, S, H⟩ := A
  obtain ⟨T', h', X', e', W, stp⟩ := stI X hx hZ eT A0 (IArr.inb S hj hi) (g := mkF m pc Ls (.int x :: .int j :: .ref a :: st)) rfl rfl hd
  rw [(nat_of hj).2] at X' W
  exact Wp.step stp (K T' h' X' e' W (IArr.same ⟨cl, A0, S, H⟩ W))
theorem W.lastore (X : Stand p l e R s m args below meth c T locs cells slots) (hx : p.tables.exec = Jvm.exec) (hZ : Z.Warmed39 s.vm) {j : Int32} {x : Int64} (pc' : Nat) (i : Nat) (eT : T.heap = h) (A : IArr Z h a .long n f) (hj : j.toInt = (i : Int)) (hi : i < n) (hd : decode c.code pc = .ok (.lastore, 1)) (hp : pc + 1 = pc')
    (K : ∀ T' h', Stand p l e R s m args below meth c T' (locs ++ [⟨a, i⟩]) cells slots → T'.heap = h' → Wr h h' a i (.long x) → IArr Z h' a .long n (upd f i (.long x)) → Wp p e s below Q kc ks (T'.setTop (mkF m pc' Ls st))) : Wp p e s below Q kc ks (T.setTop (mkF m pc Ls (.long x :: .int j :: .ref a :: st))) := by
  subst hp
  obtain ⟨cl, A0, S, H⟩ := A
  obtain ⟨T', h', X', e', W, stp⟩ := stJ X hx hZ eT A0 (IArr.inb S hj hi) (g := mkF m pc Ls (.long x :: .int j :: .ref a :: st)) rfl rfl hd
  rw [(nat_of hj).2] at X' W
  exact Wp.step stp (K T' h' X' e' W (IArr.same ⟨cl, A0, S, H⟩ W))
theorem W.castore (X : Stand p l e R s m args below meth c T locs cells slots) (hx : p.tables.exec = Jvm.exec) (hZ : Z.Warmed39 s.vm) {j : Int32} {x : Int32} (pc' : Nat) (i : Nat) (eT : T.heap = h) (A : IArr Z h a .char n f) (hj : j.toInt = (i : Int)) (hi : i < n) (hd : decode c.code pc = .ok (.castore, 1)) (hp : pc + 1 = pc')
    (K : ∀ T' h', Stand p l e R s m args below meth c T' (locs ++ [⟨a, i⟩]) cells slots → T'.heap = h' → Wr h h' a i (.int (nar .char x)) → IArr Z h' a .char n (upd f i (.int (nar .char x))) → Wp p e s below Q kc ks (T'.setTop (mkF m pc' Ls st))) : Wp p e s below Q kc ks (T.setTop (mkF m pc Ls (.int x :: .int j :: .ref a :: st))) := by
  subst hp
  obtain ⟨cl, A0, S, H⟩ := A
  obtain ⟨T', h', X', e', W, stp⟩ := stC X hx hZ eT A0 (IArr.inb S hj hi) (g := mkF m pc Ls (.int x :: .int j :: .ref a :: st)) rfl rfl hd
  rw [(nat_of hj).2] at X' W
  exact Wp.step stp (K T' h' X' e' W (IArr.same ⟨cl, A0, S, H⟩ W))
theorem W.bastore (X : Stand p l e R s m args below meth c T locs cells slots) (hx : p.tables.exec = Jvm.exec) (hZ : Z.Warmed39 s.vm) {j : Int32} {x : Int32} (pc' : Nat) (i : Nat) (eT : T.heap = h) (A : IArr Z h a .byte n f) (hj : j.toInt = (i : Int)) (hi : i < n) (hd : decode c.code pc = .ok (.bastore, 1)) (hp : pc + 1 = pc')
    (K : ∀ T' h', Stand p l e R s m args below meth c T' (locs ++ [⟨a, i⟩]) cells slots → T'.heap = h' → Wr h h' a i (.int (nar .byte x)) → IArr Z h' a .byte n (upd f i (.int (nar .byte x))) → Wp p e s below Q kc ks (T'.setTop (mkF m pc' Ls st))) : Wp p e s below Q kc ks (T.setTop (mkF m pc Ls (.int x :: .int j :: .ref a :: st))) := by
  subst hp
  obtain ⟨cl, A0, S, H⟩ := A
  obtain ⟨T', h', X', e', W, stp⟩ := stB X hx hZ eT A0 (IArr.inb S hj hi) (g := mkF m pc Ls (.int x :: .int j :: .ref a :: st)) rfl rfl hd
  rw [(nat_of hj).2] at X' W
  exact Wp.step stp (K T' h' X' e' W (IArr.same ⟨cl, A0, S, H⟩ W))
theorem W.zastore (X : Stand p l e R s m args below meth c T locs cells slots) (hx : p.tables.exec = Jvm.exec) (hZ : Z.Warmed39 s.vm) {j : Int32} {x : Int32} (pc' : Nat) (i : Nat) (eT : T.heap = h) (A : IArr Z h a .boolean n f) (hj : j.toInt = (i : Int)) (hi : i < n) (hd : decode c.code pc = .ok (.bastore, 1)) (hp : pc + 1 = pc')
    (K : ∀ T' h', Stand p l e R s m args below meth c T' (locs ++ [⟨a, i⟩]) cells slots → T'.heap = h' → Wr h h' a i (.int (nar .boolean x)) → IArr Z h' a .boolean n (upd f i (.int (nar .boolean x))) → Wp p e s below Q kc ks (T'.setTop (mkF m pc' Ls st))) : Wp p e s below Q kc ks (T.setTop (mkF m pc Ls (.int x :: .int j :: .ref a :: st))) := by
  subst hp
  obtain ⟨cl, A0, S, H⟩ := A
  obtain ⟨T', h', X', e', W, stp⟩ := stZ X hx hZ eT A0 (IArr.inb S hj hi) (g := mkF m pc Ls (.int x :: .int j :: .ref a :: st)) rfl rfl hd
  rw [(nat_of hj).2] at X' W
  exact Wp.step stp (K T' h' X' e' W (IArr.same ⟨cl, A0, S, H⟩ W))
theorem W.getS (X : Stand p l e R s m args below meth c T locs cells slots) (hx : p.tables.exec = Jvm.exec) (hZ : Z.Warmed39 s.vm) {own R0 O nm d : String} {index : Nat} {v : Value} (pc' : Nat) (hown : s.vm.findClass own = some m.cls) (w : (Jvm.Cond.fieldLink own index R0 nm d).before a0 Z = true) (via : Via Z R0 O nm d) (eT : T.heap = h) (F : Sta Z h O nm d v) (hd : decode c.code pc = .ok (.getstatic index, 3)) (hp : pc + 3 = pc')
    (K : ∀ T', Stand p l e R s m args below meth c T' locs cells slots → T'.heap = h → Wp p e s below Q kc ks (T'.setTop (mkF m pc' Ls (v :: st)))) : Wp p e s below Q kc ks (T.setTop (mkF m pc Ls st)) := by
  subst hp
  obtain ⟨T', X', e', stp⟩ := Jvm.RoadKit.getS X hx hZ (host := "") hown w via eT F (g := mkF m pc Ls st) rfl hd
  exact Wp.step stp (K T' X' e')
theorem W.getF (X : Stand p l e R s m args below meth c T locs cells slots) (hx : p.tables.exec = Jvm.exec) (hZ : Z.Warmed39 s.vm) {own R0 O nm d : String} {index : Nat} {v : Value} (pc' : Nat) (hown : s.vm.findClass own = some m.cls) (w : (Jvm.Cond.fieldLink own index R0 nm d).before a0 Z = true) (via : Via Z R0 O nm d) (eT : T.heap = h) (F : Fld Z h a O nm d v) (hd : decode c.code pc = .ok (.getfield index, 3)) (hp : pc + 3 = pc')
    (K : ∀ T', Stand p l e R s m args below meth c T' locs cells slots → T'.heap = h → Wp p e s below Q kc ks (T'.setTop (mkF m pc' Ls (v :: st)))) : Wp p e s below Q kc ks (T.setTop (mkF m pc Ls (.ref a :: st))) := by
  subst hp
  obtain ⟨T', X', e', stp⟩ := Jvm.RoadKit.getF X hx hZ (host := "") hown (Or.inl w) via eT F (g := mkF m pc Ls (.ref a :: st)) rfl rfl hd
  exact Wp.step stp (K T' X' e')
theorem W.putF (X : Stand p l e R s m args below meth c T locs cells slots) (hx : p.tables.exec = Jvm.exec) (hZ : Z.Warmed39 s.vm) {own R0 O nm d C : String} {index kk : Nat} {v old : Value} {ty : FieldType} (pc' : Nat) (hown : s.vm.findClass own = some m.cls) (w : (Jvm.Cond.fieldLink own index R0 nm d).before a0 Z = true) (via : Via Z R0 O nm d) (eT : T.heap = h) (F : Fld Z h a O nm d old) (E : Exa Z h a C) (L : (Jvm.Cond.lays C O nm d).before a0 Z = true ∨ ((Jvm.Cond.laysFinal C O nm d).before a0 Z = true ∧ own = O ∧ meth.name = "<init>")) (wi : (Jvm.Cond.instantiable C kk).before a0 Z = true)
    (hty : parseFieldDescriptor d = some ty) (hn : narrow ty v = v) (hf : fits ty v = true) (hd : decode c.code pc = .ok (.putfield index, 3)) (hp : pc + 3 = pc')
    (K : ∀ T' h', Stand p l e R s m args below meth c T' (locs ++ [⟨a, Jvm.RoadKit.slotOf Z O nm d⟩]) cells slots → T'.heap = h' → Wr h h' a (Jvm.RoadKit.slotOf Z O nm d) v → Fld Z h' a O nm d v → Wp p e s below Q kc ks (T'.setTop (mkF m pc' Ls st))) : Wp p e s below Q kc ks (T.setTop (mkF m pc Ls (v :: .ref a :: st))) := by
  subst hp
  obtain ⟨T', h', X', e', W, stp⟩ := Jvm.RoadKit.putF X hx hZ hown (host := "") (Or.inl w) via eT F E L wi hty hn hf (g := mkF m pc Ls (v :: .ref a :: st)) rfl rfl hd
  exact Wp.step stp (K T' h' X' e' W (F.same W))
theorem W.newO (X : Stand p l e R s m args below meth c T locs cells slots) (hx : p.tables.exec = Jvm.exec) (hZ : Z.Warmed39 s.vm) {own C : String} {index k : Nat} (pc' : Nat) (hown : s.vm.findClass own = some m.cls) (w : (Jvm.Cond.classLink own index C).before a0 Z = true) (wi : (Jvm.Cond.instantiable C k).before a0 Z = true) (wz : (Jvm.Cond.initialized C).before a0 Z = true) (eT : T.heap = h) (hd : decode c.code pc = .ok (.new index, 3)) (hc : cells + 1 ≤ R.cells) (hl : slots + k ≤ R.slots) (hp : pc + 3 = pc')
    (K : ∀ T' h', Stand p l e R s m args below meth c T' locs (cells + 1) (slots + k) → T'.heap = h' → Ext h h' → Exa Z h' h.size C → (∀ {O nm d : String} {ty : FieldType}, Laid Z a0 C O nm d → parseFieldDescriptor d = some ty → Fld Z h' h.size O nm d (defaultValue ty)) → Wp p e s below Q kc ks (T'.setTop (mkF m pc' Ls (.ref h.size :: st)))) : Wp p e s below Q kc ks (T.setTop (mkF m pc Ls st)) := by
  subst hp
  obtain ⟨T', h', X', e', E, A, D, -, stp⟩ := Jvm.RoadKit.newO X hx hZ hown w wi wz eT (g := mkF m pc Ls st) rfl hd hc hl
  exact Wp.step stp (K T' h' X' e' E A D)
theorem W.initO (X : Stand p l e R s m args below meth c T locs cells slots) (hx : p.tables.exec = Jvm.exec) (hZ : Z.Warmed39 s.vm) {own : String} {idx : Nat} (pc' W : Nat) (hown : s.vm.findClass own = some m.cls) (w1 : (Jvm.Cond.methodLink own idx Lib.objectInit).before a0 Z = true) (w2 : (Jvm.Cond.instanceMethod Lib.objectInit).before a0 Z = true) (w3 : (Jvm.Cond.code Lib.objectInit ⟨#[0xb1]⟩ 1 none).before a0 Z = true) (eT : T.heap = h) (hsz : Ls.size = c.maxLocals) (hd : decode c.code pc = .ok (.invokespecial idx, 3)) (hf : 1 ≤ R.frames) (hW : (st.map fun v => v.category).sum = W) (hl : W + 12 ≤ R.locals) (hp : pc + 3 = pc')
    (K : ∀ T', Stand p l e R s m args below meth c T' locs cells slots → T'.heap = h → Wp p e s below Q kc ks (T'.setTop (mkF m pc' Ls st))) : Wp p e s below Q kc ks (T.setTop (mkF m pc Ls (.ref a :: st))) := by
  subst hp
  obtain ⟨T', X', e', stp⟩ := Jvm.RoadKit.initO X hx hZ hown w1 w2 w3 eT (g := mkF m pc Ls (.ref a :: st)) rfl hsz rfl hd hf (W := W) (by show 2 * 0 + _ ≤ _; omega) hl
  exact Wp.step stp (K T' X' e')
/-! calls -/
theorem W.callS (X : Stand p l e R s m args below meth c T locs cells slots) (hx : p.tables.exec = Jvm.exec) (hZ : Z.Warmed39 s.vm) {own : String} {index : Nat} {y : MethodName} {bytes : ByteArray} {maxL : Nat} {ret : Option FieldType} {rm : Room} {Qc : Option Value → Heap → List Loc → Prop} {ps : List FieldType} {r : Option FieldType} {stk : List Value} (pc' W : Nat) (argsL : List Value)
    (hown : s.vm.findClass own = some m.cls) (w1 : (Jvm.Cond.methodLink own index y).before a0 Z = true) (w2 : (Jvm.Cond.static y).before a0 Z = true) (w3 : (Jvm.Cond.initialized y.cls).before a0 Z = true) (w4 : (Jvm.Cond.code y bytes maxL ret).before a0 Z = true) (hy : y.cls ≠ "java/lang/invoke/MethodHandle" ∧ y.cls ≠ "java/lang/invoke/VarHandle")
    (hpd : parseMethodDescriptor y.desc = some ⟨ps, r⟩) (hlen : argsL.length = ps.length) (eT : T.heap = h) (hM : Con l Z y bytes maxL ret [] rm argsL.toArray h Qc) (hd : decode c.code pc = .ok (.invokestatic index, 3)) (hsz : Ls.size = c.maxLocals) (hstk : stk = argsL.reverse ++ rest) (hW : (rest.map fun v => v.category).sum = W)
    (hf : rm.frames + 1 ≤ R.frames) (hl : W + (maxL + 11) + rm.locals ≤ R.locals) (hc : cells + rm.cells ≤ R.cells) (hsl : slots + rm.slots ≤ R.slots) (hp : pc + 3 = pc')
    (K : ∀ v T' L, Stand p l e R s m args below meth c T' (locs ++ L) (cells + rm.cells) (slots + rm.slots) → Qc v T'.heap L → Wp p e s below Q kc ks (T'.setTop (mkF m pc' Ls (v.toList ++ rest)))) : Wp p e s below Q kc ks (T.setTop (mkF m pc Ls stk)) := by
  subst hp hstk
  obtain ⟨v, vm₁, ⟨T', L', k', n'⟩, -, X', ⟨Lc, hQ, l1, l2, l3⟩, stp⟩ := Jvm.LawKit.callS X hx (y := y) hown (mvT hZ w1) (mvT hZ w2) (mvT hZ w3) (mvT hZ w4) hy (backOf (W := W) hM hZ w4 w3 hf hl) (g := mkF m pc Ls (argsL.reverse ++ rest)) rfl hsz (argsL := argsL) (rest := rest) (lenOf hpd hlen) rfl (by show 2 * 0 + _ ≤ _; omega) hd (fun _ _ => ⟨rfl, eT, hc, hsl⟩)
  dsimp only [Pt.U, Pt.locs, Pt.cells, Pt.slots] at X' l1 l2 l3 stp hQ
  subst l1 l2 l3
  exact Wp.step stp (K v T' Lc X' hQ)
theorem W.callI (X : Stand p l e R s m args below meth c T locs cells slots) (hx : p.tables.exec = Jvm.exec) (hZ : Z.Warmed39 s.vm) {own : String} {index : Nat} {y : MethodName} {bytes : ByteArray} {maxL : Nat} {rm : Room} {Qc : Option Value → Heap → List Loc → Prop} {ps : List FieldType} {r : Option FieldType} {stk : List Value} (pc' W : Nat) (b : Addr) (argsL : List Value) (hy1 : y.name = "<init>")
    (hown : s.vm.findClass own = some m.cls) (w1 : (Jvm.Cond.methodLink own index y).before a0 Z = true) (w2 : (Jvm.Cond.instanceMethod y).before a0 Z = true) (w3 : (Jvm.Cond.initialized y.cls).before a0 Z = true) (w4 : (Jvm.Cond.code y bytes maxL none).before a0 Z = true) (hy : y.cls ≠ "java/lang/invoke/MethodHandle" ∧ y.cls ≠ "java/lang/invoke/VarHandle")
    (hpd : parseMethodDescriptor y.desc = some ⟨ps, r⟩) (hlen : argsL.length = ps.length) (eT : T.heap = h) (hM : Con l Z y bytes maxL none [] rm (.ref b :: argsL).toArray h Qc) (hd : decode c.code pc = .ok (.invokespecial index, 3)) (hsz : Ls.size = c.maxLocals) (hstk : stk = argsL.reverse ++ .ref b :: rest) (hW : (rest.map fun v => v.category).sum = W)
    (hf : rm.frames + 1 ≤ R.frames) (hl : W + (maxL + 11) + rm.locals ≤ R.locals) (hc : cells + rm.cells ≤ R.cells) (hsl : slots + rm.slots ≤ R.slots) (hp : pc + 3 = pc')
    (K : ∀ v T' L, Stand p l e R s m args below meth c T' (locs ++ L) (cells + rm.cells) (slots + rm.slots) → Qc v T'.heap L → Wp p e s below Q kc ks (T'.setTop (mkF m pc' Ls (v.toList ++ rest)))) : Wp p e s below Q kc ks (T.setTop (mkF m pc Ls stk)) := by
  subst hp hstk
  obtain ⟨v, vm₁, ⟨T', L', k', n'⟩, -, X', ⟨Lc, hQ, l1, l2, l3⟩, stp⟩ := X.specialBack hx (y := y) hy1 hown (mvT hZ w1) (mvT hZ w2) (mvT hZ w4) hy (backOf (W := W) hM hZ w4 w3 hf hl) (g := mkF m pc Ls (argsL.reverse ++ .ref b :: rest)) rfl hsz (Steps.refl _) (a := b) (argsL := argsL) (rest := rest) (lenOf hpd hlen) rfl (by show 2 * 0 + _ ≤ _; omega) hd (fun _ _ => ⟨rfl, eT, hc, hsl⟩)
  dsimp only [Pt.U, Pt.locs, Pt.cells, Pt.slots] at X' l1 l2 l3 stp hQ
  subst l1 l2 l3
  exact Wp.chain stp (K v T' Lc X' hQ)
theorem W.callV (X : Stand p l e R s m args below meth c T locs cells slots) (hx : p.tables.exec = Jvm.exec) (hZ : Z.Warmed39 s.vm) {own C : String} {index : Nat} {y : MethodName} {bytes : ByteArray} {maxL : Nat} {ret : Option FieldType} {rm : Room} {Qc : Option Value → Heap → List Loc → Prop} {ps : List FieldType} {r : Option FieldType} {stk : List Value} (pc' W : Nat) (b : Addr) (argsL : List Value)
    (hown : s.vm.findClass own = some m.cls) (w1 : (Jvm.Cond.methodLink own index y).before a0 Z = true) (w2 : (Jvm.Cond.declares y).before a0 Z = true) (w5 : (Jvm.Cond.selects C y y).before a0 Z = true) (w6 : (Jvm.Cond.instanceMethod y).before a0 Z = true) (w3 : (Jvm.Cond.initialized y.cls).before a0 Z = true) (w4 : (Jvm.Cond.code y bytes maxL ret).before a0 Z = true) (hy : y.cls ≠ "java/lang/invoke/MethodHandle" ∧ y.cls ≠ "java/lang/invoke/VarHandle")
    (hpd : parseMethodDescriptor y.desc = some ⟨ps, r⟩) (hlen : argsL.length = ps.length) (eT : T.heap = h) (E : Exa Z h b C) (hM : Con l Z y bytes maxL ret [] rm (.ref b :: argsL).toArray h Qc) (hd : decode c.code pc = .ok (.invokevirtual index, 3)) (hsz : Ls.size = c.maxLocals) (hstk : stk = argsL.reverse ++ .ref b :: rest) (hW : (rest.map fun v => v.category).sum = W)
    (hf : rm.frames + 1 ≤ R.frames) (hl : W + (maxL + 11) + rm.locals ≤ R.locals) (hc : cells + rm.cells ≤ R.cells) (hsl : slots + rm.slots ≤ R.slots) (hp : pc + 3 = pc')
    (K : ∀ v T' L, Stand p l e R s m args below meth c T' (locs ++ L) (cells + rm.cells) (slots + rm.slots) → Qc v T'.heap L → Wp p e s below Q kc ks (T'.setTop (mkF m pc' Ls (v.toList ++ rest)))) : Wp p e s below Q kc ks (T.setTop (mkF m pc Ls stk)) := by
  subst hp hstk
  obtain ⟨cq, kq, qa, qb, qc⟩ := isOf hZ eT E
  obtain ⟨v, vm₁, ⟨T', L', k', n'⟩, -, X', ⟨Lc, hQ, l1, l2, l3⟩, stp⟩ := X.virtualBack hx (y := y) (z := y) hown (mvT hZ w1) (mvT hZ w2) (notFace_of_selects (args := args) (mvT hZ w5)) (mvT hZ w5) (mvT hZ w6) hy (backOf (W := W) hM hZ w4 w3 hf hl) qa qc (g := mkF m pc Ls (argsL.reverse ++ .ref b :: rest)) rfl hsz (Steps.refl _) (argsL := argsL) (rest := rest) (lenOf hpd hlen) rfl (by show 2 * 0 + _ ≤ _; omega) hd (fun _ _ => ⟨rfl, eT, hc, hsl⟩)
  dsimp only [Pt.U, Pt.locs, Pt.cells, Pt.slots] at X' l1 l2 l3 stp hQ
  subst l1 l2 l3
  exact Wp.chain stp (K v T' Lc X' hQ)
theorem ext_refl (h : Heap) : Ext h h := ⟨Nat.le_refl _, fun _ _ q => q⟩
theorem ext_trans {h1 h2 h3 : Heap} (E : Ext h1 h2) (E' : Ext h2 h3) : Ext h1 h3 := ⟨Nat.le_trans E.1 E'.1, fun a c q => E'.2 a c (E.2 a c q)⟩
theorem ext_wr {h0 : Heap} {sl : Nat} {v : Value} (E : Ext h0 h) (W : Wr h h' a sl v) (q : h0.size ≤ a) : Ext h0 h' := by
  refine ⟨by rw [W.size]; exact E.1, fun x cx hx => ?_⟩
  obtain ⟨c', e1, -, -, -, e5, -⟩ := wr_at W (E.2 x cx hx)
  rw [e1, e5 (fun z => by subst z; exact absurd (Array.getElem?_eq_some_iff.mp hx).1 (Nat.not_lt.mpr q))]
theorem ext_keep {h0 : Heap} {ws : List Addr} (E : Ext h0 h) (K : Keep h h' ws) (q : ∀ x ∈ ws, h0.size ≤ x) : Ext h0 h' :=
  ⟨Nat.le_trans E.1 K.1, fun x cx hx => K.2.1 x cx (E.2 x cx hx) fun z => absurd (Array.getElem?_eq_some_iff.mp hx).1 (Nat.not_lt.mpr (q x z))⟩
/-! switches -/
theorem W.lswHit (X : Stand p l e R s m args below meth c T locs cells slots) (hx : p.tables.exec = Jvm.exec) {k : Int32} {dflt : Int} {pairs : Array (Int × Int)} {len : Nat} (pc' : Nat) (y off : Int) (hd : decode c.code pc = .ok (.lookupswitch dflt pairs, len)) (hso : (pairs.toList.zip (pairs.toList.drop 1)).all (fun (a, next) => a.1 < next.1) = true) (hf : pairs.find? (·.1 == k.toInt) = some (y, off)) (ho : 0 ≤ (pc : Int) + off) (hp : ((pc : Int) + off).toNat = pc') (K : Wp p e s below Q kc ks (T.setTop (mkF m pc' Ls st))) : Wp p e s below Q kc ks (T.setTop (mkF m pc Ls (.int k :: st))) := by
  subst hp; exact Wp.step (fun t q => X.lookupswitchHit hx (g := mkF m pc Ls (.int k :: st)) rfl rfl hd hso hf ho t q) K
theorem W.lswMiss (X : Stand p l e R s m args below meth c T locs cells slots) (hx : p.tables.exec = Jvm.exec) {k : Int32} {dflt : Int} {pairs : Array (Int × Int)} {len : Nat} (pc' : Nat) (hd : decode c.code pc = .ok (.lookupswitch dflt pairs, len)) (hso : (pairs.toList.zip (pairs.toList.drop 1)).all (fun (a, next) => a.1 < next.1) = true) (hf : pairs.find? (·.1 == k.toInt) = none) (ho : 0 ≤ (pc : Int) + dflt) (hp : ((pc : Int) + dflt).toNat = pc') (K : Wp p e s below Q kc ks (T.setTop (mkF m pc' Ls st))) : Wp p e s below Q kc ks (T.setTop (mkF m pc Ls (.int k :: st))) := by
  subst hp; exact Wp.step (fun t q => X.lookupswitchMiss hx (g := mkF m pc Ls (.int k :: st)) rfl rfl hd hso hf ho t q) K
theorem W.tswIn (X : Stand p l e R s m args below meth c T locs cells slots) (hx : p.tables.exec = Jvm.exec) {k : Int32} {dflt low high : Int} {offs : Array Int} {len : Nat} (pc' : Nat) (off : Int) (hd : decode c.code pc = .ok (.tableswitch dflt low high offs, len)) (hi : ¬ (k.toInt < low ∨ k.toInt > high)) (hf : offs[(k.toInt - low).toNat]? = some off) (ho : 0 ≤ (pc : Int) + off) (hp : ((pc : Int) + off).toNat = pc') (K : Wp p e s below Q kc ks (T.setTop (mkF m pc' Ls st))) : Wp p e s below Q kc ks (T.setTop (mkF m pc Ls (.int k :: st))) := by
  subst hp; exact Wp.step (fun t q => X.tableswitchIn hx (g := mkF m pc Ls (.int k :: st)) rfl rfl hd hi hf ho t q) K
/-! arrays of references -/
def Takes (Z : State) (h : Heap) (a : Addr) (C : String) : Prop := ∃ (c : Cell) (ty : FieldType), Arr Z h a c ty ∧ Ovr Z c.cls C
theorem Takes.lt {C : String} (F : Takes Z h a C) : a < h.size := by obtain ⟨c, ty, A, -⟩ := F; exact A.lt
theorem Takes.ext {C : String} (F : Takes Z h a C) (E : Ext h h') : Takes Z h' a C := by obtain ⟨c, ty, A, O⟩ := F; exact ⟨c, ty, A.ext E, O⟩
theorem Takes.wr {C : String} {sl : Nat} {v : Value} (F : Takes Z h a C) (W : Wr h h' b sl v) : Takes Z h' a C := by
  obtain ⟨c, ty, A, O⟩ := F
  by_cases q : a = b
  · subst q; exact ⟨_, ty, A.same W, O⟩
  · exact ⟨c, ty, A.other W q, O⟩
theorem Takes.sto {C : String} {y : Addr} (F : Takes Z h a C) (I : Ins Z h y C true) : Sto Z h a (.ref y) := by obtain ⟨c, ty, A, O⟩ := F; exact Sto.of A O I
theorem W.newR (X : Stand p l e R s m args below meth c T locs cells slots) (hx : p.tables.exec = Jvm.exec) (hZ : Z.Warmed39 s.vm) {own C : String} {index : Nat} {z : Int32} (pc' : Nat) (k cap : Nat) (hown : s.vm.findClass own = some m.cls) (w1 : (Jvm.Cond.classLink own index C).before a0 Z = true) (w2 : (Jvm.Cond.arrayOver (.object C)).before a0 Z = true) (eT : T.heap = h) (hd : decode c.code pc = .ok (.anewarray index, 3)) (hz : z.toInt = (k : Int)) (hcap : k ≤ cap) (hb : cap * 8 ≤ 536870912) (hc : cells + 1 ≤ R.cells) (hl : slots + cap ≤ R.slots) (hp : pc + 3 = pc')
    (K : ∀ T' h', Stand p l e R s m args below meth c T' locs (cells + 1) (slots + cap) → T'.heap = h' → Ext h h' → IArr Z h' h.size (.object C) k (fun _ => defaultValue (.object C)) → Takes Z h' h.size C → Wp p e s below Q kc ks (T'.setTop (mkF m pc' Ls (.ref h.size :: st)))) : Wp p e s below Q kc ks (T.setTop (mkF m pc Ls (.int z :: st))) := by
  subst hp
  obtain ⟨q1, q2⟩ := nat_of hz
  obtain ⟨T', h', cA, X', e', E, A, O, stp⟩ := Jvm.RoadKit.newR X hx hZ hown w1 w2 eT (g := mkF m pc Ls (.int z :: st)) rfl hd rfl q1 (cap := cap) (by omega) hb hc hl
  exact Wp.step stp (K T' h' X' e' E (IArr.fresh A q2) ⟨_, _, A, O⟩)
theorem W.aastore (X : Stand p l e R s m args below meth c T locs cells slots) (hx : p.tables.exec = Jvm.exec) (hZ : Z.Warmed39 s.vm) {j : Int32} {v : Value} (pc' : Nat) (i : Nat) (eT : T.heap = h) (A : IArr Z h a ty n f) (hty : ty.isReference = true) (F : Sto Z h a v) (hj : j.toInt = (i : Int)) (hi : i < n) (hd : decode c.code pc = .ok (.aastore, 1)) (hp : pc + 1 = pc')
    (K : ∀ T' h', Stand p l e R s m args below meth c T' (locs ++ [⟨a, i⟩]) cells slots → T'.heap = h' → Wr h h' a i v → IArr Z h' a ty n (upd f i v) → Wp p e s below Q kc ks (T'.setTop (mkF m pc' Ls st))) : Wp p e s below Q kc ks (T.setTop (mkF m pc Ls (v :: .int j :: .ref a :: st))) := by
  subst hp
  obtain ⟨cl, A0, S, H⟩ := A
  obtain ⟨T', h', X', e', W, stp⟩ := stR X hx hZ eT A0 (IArr.inb S hj hi) hty F (g := mkF m pc Ls (v :: .int j :: .ref a :: st)) rfl rfl hd
  rw [(nat_of hj).2] at X' W
  exact Wp.step stp (K T' h' X' e' W (IArr.same ⟨cl, A0, S, H⟩ W))
/-! a virtual call whose method is declared in a superclass -/
theorem W.callU (X : Stand p l e R s m args below meth c T locs cells slots) (hx : p.tables.exec = Jvm.exec) (hZ : Z.Warmed39 s.vm) {own C owner : String} {index : Nat} {y z : MethodName} {bytes : ByteArray} {maxL : Nat} {ret : Option FieldType} {rm : Room} {Qc : Option Value → Heap → List Loc → Prop} {ps : List FieldType} {r : Option FieldType} {stk : List Value} (pc' W : Nat) (b : Addr) (argsL : List Value)
    (hown : s.vm.findClass own = some m.cls) (w1 : (Jvm.Cond.methodLink own index y).before a0 Z = true) (w7 : (Jvm.Cond.sameMethod y.cls owner y.name y.desc).before a0 Z = true) (w2 : (Jvm.Cond.declares ⟨owner, y.name, y.desc⟩).before a0 Z = true) (hy : owner ≠ "java/lang/invoke/MethodHandle" ∧ owner ≠ "java/lang/invoke/VarHandle") (w5 : (Jvm.Cond.selects C y z).before a0 Z = true) (w6 : (Jvm.Cond.instanceMethod z).before a0 Z = true) (w3 : (Jvm.Cond.initialized z.cls).before a0 Z = true) (w4 : (Jvm.Cond.code z bytes maxL ret).before a0 Z = true)
    (hpd : parseMethodDescriptor y.desc = some ⟨ps, r⟩) (hlen : argsL.length = ps.length) (eT : T.heap = h) (E : Exa Z h b C) (hM : Con l Z z bytes maxL ret [] rm (.ref b :: argsL).toArray h Qc) (hd : decode c.code pc = .ok (.invokevirtual index, 3)) (hsz : Ls.size = c.maxLocals) (hstk : stk = argsL.reverse ++ .ref b :: rest) (hW : (rest.map fun v => v.category).sum = W)
    (hf : rm.frames + 1 ≤ R.frames) (hl : W + (maxL + 11) + rm.locals ≤ R.locals) (hc : cells + rm.cells ≤ R.cells) (hsl : slots + rm.slots ≤ R.slots) (hp : pc + 3 = pc')
    (K : ∀ v T' L, Stand p l e R s m args below meth c T' (locs ++ L) (cells + rm.cells) (slots + rm.slots) → Qc v T'.heap L → Wp p e s below Q kc ks (T'.setTop (mkF m pc' Ls (v.toList ++ rest)))) : Wp p e s below Q kc ks (T.setTop (mkF m pc Ls stk)) := by
  subst hp hstk
  obtain ⟨cq, kq, qa, qb, qc⟩ := isOf hZ eT E
  obtain ⟨v, vm₁, ⟨T', L', k', n'⟩, -, X', ⟨Lc, hQ, l1, l2, l3⟩, stp⟩ := X.virtualBackUp hx (x := y) (y := z) (owner := owner) hown (mvT hZ w1) (mvT hZ w7) (mvT hZ w2) hy (mvT hZ w5) (mvT hZ w6) (backOf (W := W) hM hZ w4 w3 hf hl) qa qc (g := mkF m pc Ls (argsL.reverse ++ .ref b :: rest)) rfl hsz (Steps.refl _) (argsL := argsL) (rest := rest) (lenOf hpd hlen) rfl (by show 2 * 0 + _ ≤ _; omega) hd (fun _ _ => ⟨rfl, eT, hc, hsl⟩)
  dsimp only [Pt.U, Pt.locs, Pt.cells, Pt.slots] at X' l1 l2 l3 stp hQ
  subst l1 l2 l3
  exact Wp.chain stp (K v T' Lc X' hQ)
/-! a private instance method -/
theorem W.callP (X : Stand p l e R s m args below meth c T locs cells slots) (hx : p.tables.exec = Jvm.exec) (hZ : Z.Warmed39 s.vm) {own : String} {index : Nat} {y : MethodName} {bytes : ByteArray} {maxL kk : Nat} {ret : Option FieldType} {rm : Room} {Qc : Option Value → Heap → List Loc → Prop} {ps : List FieldType} {r : Option FieldType} {stk : List Value} (pc' W : Nat) (b : Addr) (argsL : List Value)
    (hown : s.vm.findClass own = some m.cls) (w1 : (Jvm.Cond.methodLink own index y).before a0 Z = true) (w2 : (Jvm.Cond.instanceMethod y).before a0 Z = true) (w5 : (Jvm.Cond.privateMethod y).before a0 Z = true) (w6 : (Jvm.Cond.instantiable y.cls kk).before a0 Z = true) (w3 : (Jvm.Cond.initialized y.cls).before a0 Z = true) (w4 : (Jvm.Cond.code y bytes maxL ret).before a0 Z = true) (hy : y.cls ≠ "java/lang/invoke/MethodHandle" ∧ y.cls ≠ "java/lang/invoke/VarHandle")
    (hpd : parseMethodDescriptor y.desc = some ⟨ps, r⟩) (hlen : argsL.length = ps.length) (eT : T.heap = h) {C : String} (E : Exa Z h b C) (hM : Con l Z y bytes maxL ret [] rm (.ref b :: argsL).toArray h Qc) (hd : decode c.code pc = .ok (.invokevirtual index, 3)) (hsz : Ls.size = c.maxLocals) (hstk : stk = argsL.reverse ++ .ref b :: rest) (hW : (rest.map fun v => v.category).sum = W)
    (hf : rm.frames + 1 ≤ R.frames) (hl : W + (maxL + 11) + rm.locals ≤ R.locals) (hc : cells + rm.cells ≤ R.cells) (hsl : slots + rm.slots ≤ R.slots) (hp : pc + 3 = pc')
    (K : ∀ v T' L, Stand p l e R s m args below meth c T' (locs ++ L) (cells + rm.cells) (slots + rm.slots) → Qc v T'.heap L → Wp p e s below Q kc ks (T'.setTop (mkF m pc' Ls (v.toList ++ rest)))) : Wp p e s below Q kc ks (T.setTop (mkF m pc Ls stk)) := by
  subst hp hstk
  obtain ⟨cq, q, q'⟩ := E.cell
  have hpr := Cond.privateMethod_at (mvP hZ w5 (args := args))
  obtain ⟨c2, k2, i1, i2, i3, i4, -⟩ := Cond.instantiable_spec (mvT (args := args) hZ w6)
  have hsel := selects_self_of_private i1 i2 (Bool.or_eq_false_iff.mp i4).1 hpr (mvT (args := args) hZ w2) hy
  obtain ⟨v, vm₁, ⟨T', L', k', n'⟩, -, X', ⟨Lc, hQ, l1, l2, l3⟩, stp⟩ := X.privateBack hx (y := y) hown (mvT hZ w1) (mvT hZ w2) hsel hpr (mvT hZ w4) hy (backOf (W := W) hM hZ w4 w3 hf hl) (g := mkF m pc Ls (argsL.reverse ++ .ref b :: rest)) rfl hsz (Steps.refl _) (a := b) (by rw [eT]; exact q) q' (argsL := argsL) (rest := rest) (lenOf hpd hlen) rfl (by show 2 * 0 + _ ≤ _; omega) hd (fun _ _ => ⟨rfl, eT, hc, hsl⟩)
  dsimp only [Pt.U, Pt.locs, Pt.cells, Pt.slots] at X' l1 l2 l3 stp hQ
  subst l1 l2 l3
  exact Wp.chain stp (K v T' Lc X' hQ)
end W
end Jvm.OwnW
namespace Jvm.Pilot.@@N@@
open Jvm Jvm.ClassFile Sem Op Lib Jvm.Free Jvm.Stand Jvm.LawKit Jvm.RoadKit Jvm.OwnW Bundle Jvm.Pilot.@@N@@.Jvm.D
theorem pd_0 : parseMethodDescriptor "()I" = some ⟨[], some .int⟩ := by decide +kernel
theorem pd_1 : parseMethodDescriptor "(I)Z" = some ⟨[.int], some .boolean⟩ := by decide +kernel
theorem own_fld {args : Array Value} {s : State} {t : Term} {C n d : String} {k : Int32} {u : Addr} (ht : t.eval args s none [] s = some (.ref u)) (h : (Jvm.Cond.eq (.field t C n d) (.int k)).value args s none s [] = some true) : Fld s s.heap u C n d (.int k) := by
  obtain ⟨x, y, hx, hy, k1, k2⟩ := cmp_v (Or.inl h)
  obtain rfl : y = .int k := by simpa [Term.eval] using hy.symm
  obtain ⟨z, rfl⟩ : ∃ z, x = .int z := k2
  have q : z = k := gotT (Cond.eq_ints hx hy) h
  subst q
  exact Fld.start (by rw [← fld_at ht]; exact hx)
def own_b (P : Prop) [Decidable P] : Int32 := if P then 1 else 0
/-- what holds answers: by the ordinal -/
def own_h (k : Nat) (s : Int32) : Int32 := match k with
  | 0 => if s < 0 then 1 else 0
  | 1 => if 0 < s then 0 else 1
  | 2 => if 0 < s then 1 else 0
  | 3 => if s < 0 then 0 else 1
  | 4 => if s = 0 then 1 else 0
  | _ => if s = 0 then 0 else 1
theorem d2_0 : decode jdk_37_method_2_code 0 = .ok (.aload_n 0, 1) := by decide +kernel
theorem d2_1 : decode jdk_37_method_2_code 1 = .ok (.getfield 7, 3) := by decide +kernel
theorem d2_4 : decode jdk_37_method_2_code 4 = .ok (.ireturn, 1) := by decide +kernel
theorem pn_2 : plainName "java/lang/Enum" = true := by first | (simp [plainName, overriddenIn]; done) | decide +kernel
theorem ef_rm2 (m : MethodId) (r : Addr) : entryFrame m #[(.ref r)] 1 = mkF m 0 #[.val (.ref r)] [] := by first | (simp [entryFrame, mkF, argsToLocals, Value.category]; done) | rfl
set_option maxRecDepth 65536 in
set_option maxHeartbeats 40000000 in
theorem rm2 (l : Launch) (Z : State) (a0 : Array Value) (hw : ∀ d ∈ tables_1, d.before a0 Z = true) (r : Addr) (z : Int32) (h0 : Heap) (F : Fld Z h0 r "java/lang/Enum" "ordinal" "I" (.int z)) :
    Con l Z (⟨"java/lang/Enum", "ordinal", "()I"⟩ : MethodName) jdk_37_method_2_code 1 (some .int) [] ({ frames := 0, cells := 0, slots := 0, locals := 0 } : Room) #[(.ref r)] h0 (fun v h L => v = some (.int z) ∧ h = h0 ∧ L = []) := by
  refine Con.of (plainFor_of_name pn_2) ?_
  intro p e s m below meth c s₁ hx hby hml hown hnm hret hlk hZ X0 e0
  refine Wp.enter (ef_rm2 m r) ?_
  refine W.aloadN X0 hx 1 (hb hby d2_0) rfl rfl rfl ?_
  refine W.getF X0 hx hZ 4 hown (hw _ (List.mem_of_getElem? (i := 30) rfl)) Via.refl e0 F (hb hby d2_1) rfl ?_
  intro T1 X1 e1
  refine W.iret X1 hx hlk hret (hb hby d2_4) (by decide) (by decide) ?_
  exact ⟨rfl, e1, rfl⟩
theorem d1_0 : decode prog_48_method_7_code 0 = .ok (.aload_n 0, 1) := by decide +kernel
theorem d1_1 : decode prog_48_method_7_code 1 = .ok (.invokevirtual 65, 3) := by decide +kernel
theorem d1_4 : decode prog_48_method_7_code 4 = .ok (.tableswitch 40 0 5 #[50, 62, 74, 86, 98, 110], 40) := by decide +kernel
theorem d1_44 : decode prog_48_method_7_code 44 = .ok (.new 69, 3) := by decide +kernel
theorem d1_47 : decode prog_48_method_7_code 47 = .ok (.dup, 1) := by decide +kernel
theorem d1_48 : decode prog_48_method_7_code 48 = .ok (.aconst_null, 1) := by decide +kernel
theorem d1_49 : decode prog_48_method_7_code 49 = .ok (.aconst_null, 1) := by decide +kernel
theorem d1_50 : decode prog_48_method_7_code 50 = .ok (.invokespecial 71, 3) := by decide +kernel
theorem d1_53 : decode prog_48_method_7_code 53 = .ok (.athrow, 1) := by decide +kernel
theorem d1_54 : decode prog_48_method_7_code 54 = .ok (.iload_n 1, 1) := by decide +kernel
theorem d1_55 : decode prog_48_method_7_code 55 = .ok (.ifCond .ge 7, 3) := by decide +kernel
theorem d1_58 : decode prog_48_method_7_code 58 = .ok (.iconst 1, 1) := by decide +kernel
theorem d1_59 : decode prog_48_method_7_code 59 = .ok (.goto 64, 3) := by decide +kernel
theorem d1_62 : decode prog_48_method_7_code 62 = .ok (.iconst 0, 1) := by decide +kernel
theorem d1_63 : decode prog_48_method_7_code 63 = .ok (.goto 60, 3) := by decide +kernel
theorem d1_66 : decode prog_48_method_7_code 66 = .ok (.iload_n 1, 1) := by decide +kernel
theorem d1_67 : decode prog_48_method_7_code 67 = .ok (.ifCond .gt 7, 3) := by decide +kernel
theorem d1_70 : decode prog_48_method_7_code 70 = .ok (.iconst 1, 1) := by decide +kernel
theorem d1_71 : decode prog_48_method_7_code 71 = .ok (.goto 52, 3) := by decide +kernel
theorem d1_74 : decode prog_48_method_7_code 74 = .ok (.iconst 0, 1) := by decide +kernel
theorem d1_75 : decode prog_48_method_7_code 75 = .ok (.goto 48, 3) := by decide +kernel
theorem d1_78 : decode prog_48_method_7_code 78 = .ok (.iload_n 1, 1) := by decide +kernel
theorem d1_79 : decode prog_48_method_7_code 79 = .ok (.ifCond .le 7, 3) := by decide +kernel
theorem d1_82 : decode prog_48_method_7_code 82 = .ok (.iconst 1, 1) := by decide +kernel
theorem d1_83 : decode prog_48_method_7_code 83 = .ok (.goto 40, 3) := by decide +kernel
theorem d1_86 : decode prog_48_method_7_code 86 = .ok (.iconst 0, 1) := by decide +kernel
theorem d1_87 : decode prog_48_method_7_code 87 = .ok (.goto 36, 3) := by decide +kernel
theorem d1_90 : decode prog_48_method_7_code 90 = .ok (.iload_n 1, 1) := by decide +kernel
theorem d1_91 : decode prog_48_method_7_code 91 = .ok (.ifCond .lt 7, 3) := by decide +kernel
theorem d1_94 : decode prog_48_method_7_code 94 = .ok (.iconst 1, 1) := by decide +kernel
theorem d1_95 : decode prog_48_method_7_code 95 = .ok (.goto 28, 3) := by decide +kernel
theorem d1_98 : decode prog_48_method_7_code 98 = .ok (.iconst 0, 1) := by decide +kernel
theorem d1_99 : decode prog_48_method_7_code 99 = .ok (.goto 24, 3) := by decide +kernel
theorem d1_102 : decode prog_48_method_7_code 102 = .ok (.iload_n 1, 1) := by decide +kernel
theorem d1_103 : decode prog_48_method_7_code 103 = .ok (.ifCond .ne 7, 3) := by decide +kernel
theorem d1_106 : decode prog_48_method_7_code 106 = .ok (.iconst 1, 1) := by decide +kernel
theorem d1_107 : decode prog_48_method_7_code 107 = .ok (.goto 16, 3) := by decide +kernel
theorem d1_110 : decode prog_48_method_7_code 110 = .ok (.iconst 0, 1) := by decide +kernel
theorem d1_111 : decode prog_48_method_7_code 111 = .ok (.goto 12, 3) := by decide +kernel
theorem d1_114 : decode prog_48_method_7_code 114 = .ok (.iload_n 1, 1) := by decide +kernel
theorem d1_115 : decode prog_48_method_7_code 115 = .ok (.ifCond .eq 7, 3) := by decide +kernel
theorem d1_118 : decode prog_48_method_7_code 118 = .ok (.iconst 1, 1) := by decide +kernel
theorem d1_119 : decode prog_48_method_7_code 119 = .ok (.goto 4, 3) := by decide +kernel
theorem d1_122 : decode prog_48_method_7_code 122 = .ok (.iconst 0, 1) := by decide +kernel
theorem d1_123 : decode prog_48_method_7_code 123 = .ok (.ireturn, 1) := by decide +kernel
theorem pn_1 : plainName "com/example/guardnet/guardnet/guard/Operator" = true := by first | (simp [plainName, overriddenIn]; done) | decide +kernel
theorem ef_rmh0 (m : MethodId) (r : Addr) (p1 : Int32) : entryFrame m #[(.ref r), (.int p1)] 2 = mkF m 0 #[.val (.ref r), .val (.int p1)] [] := by first | (simp [entryFrame, mkF, argsToLocals, Value.category]; done) | rfl
set_option maxRecDepth 65536 in
set_option maxHeartbeats 40000000 in
theorem rmh0 (l : Launch) (Z : State) (a0 : Array Value) (hw : ∀ d ∈ tables_1, d.before a0 Z = true) (r : Addr) (p1 : Int32) (h0 : Heap) (E : Exa Z h0 r "com/example/guardnet/guardnet/guard/Operator") (F : Fld Z h0 r "java/lang/Enum" "ordinal" "I" (.int 0)) :
    Con l Z (⟨"com/example/guardnet/guardnet/guard/Operator", "holds", "(I)Z"⟩ : MethodName) prog_48_method_7_code 2 (some .boolean) [] ({ frames := 1, cells := 0, slots := 0, locals := 20 } : Room) #[(.ref r), (.int p1)] h0 (fun v h L => v = some (.int (own_h 0 p1)) ∧ h = h0 ∧ L = []) := by
  refine Con.of (plainFor_of_name pn_1) ?_
  intro p e s m below meth c s₁ hx hby hml hown hnm hret hlk hZ X0 e0
  refine Wp.enter (ef_rmh0 m r p1) ?_
  refine W.aloadN X0 hx 1 (hb hby d1_0) rfl rfl rfl ?_
  refine W.callU X0 hx hZ 4 0 r [] hown (hw _ (List.mem_of_getElem? (i := 23) rfl)) (hw _ (List.mem_of_getElem? (i := 24) rfl)) (hw _ (List.mem_of_getElem? (i := 25) rfl)) (by decide) (hw _ (List.mem_of_getElem? (i := 27) rfl)) (hw _ (List.mem_of_getElem? (i := 26) rfl)) (hw _ (List.mem_of_getElem? (i := 28) rfl)) (hw _ (List.mem_of_getElem? (i := 29) rfl)) pd_0 rfl e0 E (rm2 l Z a0 hw r 0 h0 F) (hb hby d1_1) (by rw [hml]; rfl) rfl rfl (by decide) (by decide) (by decide) (by decide) rfl ?_
  rintro v1 T1 L1 X1 ⟨rfl, e1, rfl⟩
  refine W.tswIn X1 hx 54 50 (hb hby d1_4) (by decide) (by decide) (by decide) (by decide) ?_
  refine W.iloadN X1 hx 55 (hb hby d1_54) rfl rfl ?_
  refine W.ifGe X1 hx 62 58 (hb hby d1_55) (by decide) (by decide) rfl (fun q => ?_) (fun q => ?_)
  · skip
    refine W.iconst X1 hx 63 (0 : Int32) (hb hby d1_62) rfl rfl ?_
    refine W.goto X1 hx 123 (hb hby d1_63) (by decide) (by decide) ?_
    refine W.nret X1 hx hlk (t := .boolean) hret (by simp) (hb hby d1_123) (by decide) (by decide) ?_
    exact ⟨by simp [own_h, q, nar], e1, rfl⟩
  · skip
    refine W.iconst X1 hx 59 (1 : Int32) (hb hby d1_58) rfl rfl ?_
    refine W.goto X1 hx 123 (hb hby d1_59) (by decide) (by decide) ?_
    refine W.nret X1 hx hlk (t := .boolean) hret (by simp) (hb hby d1_123) (by decide) (by decide) ?_
    exact ⟨by simp [own_h, q, nar], e1, rfl⟩
theorem ef_rmh1 (m : MethodId) (r : Addr) (p1 : Int32) : entryFrame m #[(.ref r), (.int p1)] 2 = mkF m 0 #[.val (.ref r), .val (.int p1)] [] := by first | (simp [entryFrame, mkF, argsToLocals, Value.category]; done) | rfl
set_option maxRecDepth 65536 in
set_option maxHeartbeats 40000000 in
theorem rmh1 (l : Launch) (Z : State) (a0 : Array Value) (hw : ∀ d ∈ tables_1, d.before a0 Z = true) (r : Addr) (p1 : Int32) (h0 : Heap) (E : Exa Z h0 r "com/example/guardnet/guardnet/guard/Operator") (F : Fld Z h0 r "java/lang/Enum" "ordinal" "I" (.int 1)) :
    Con l Z (⟨"com/example/guardnet/guardnet/guard/Operator", "holds", "(I)Z"⟩ : MethodName) prog_48_method_7_code 2 (some .boolean) [] ({ frames := 1, cells := 0, slots := 0, locals := 20 } : Room) #[(.ref r), (.int p1)] h0 (fun v h L => v = some (.int (own_h 1 p1)) ∧ h = h0 ∧ L = []) := by
  refine Con.of (plainFor_of_name pn_1) ?_
  intro p e s m below meth c s₁ hx hby hml hown hnm hret hlk hZ X0 e0
  refine Wp.enter (ef_rmh1 m r p1) ?_
  refine W.aloadN X0 hx 1 (hb hby d1_0) rfl rfl rfl ?_
  refine W.callU X0 hx hZ 4 0 r [] hown (hw _ (List.mem_of_getElem? (i := 23) rfl)) (hw _ (List.mem_of_getElem? (i := 24) rfl)) (hw _ (List.mem_of_getElem? (i := 25) rfl)) (by decide) (hw _ (List.mem_of_getElem? (i := 27) rfl)) (hw _ (List.mem_of_getElem? (i := 26) rfl)) (hw _ (List.mem_of_getElem? (i := 28) rfl)) (hw _ (List.mem_of_getElem? (i := 29) rfl)) pd_0 rfl e0 E (rm2 l Z a0 hw r 1 h0 F) (hb hby d1_1) (by rw [hml]; rfl) rfl rfl (by decide) (by decide) (by decide) (by decide) rfl ?_
  rintro v1 T1 L1 X1 ⟨rfl, e1, rfl⟩
  refine W.tswIn X1 hx 66 62 (hb hby d1_4) (by decide) (by decide) (by decide) (by decide) ?_
  refine W.iloadN X1 hx 67 (hb hby d1_66) rfl rfl ?_
  refine W.ifGt X1 hx 74 70 (hb hby d1_67) (by decide) (by decide) rfl (fun q => ?_) (fun q => ?_)
  · skip
    refine W.iconst X1 hx 75 (0 : Int32) (hb hby d1_74) rfl rfl ?_
    refine W.goto X1 hx 123 (hb hby d1_75) (by decide) (by decide) ?_
    refine W.nret X1 hx hlk (t := .boolean) hret (by simp) (hb hby d1_123) (by decide) (by decide) ?_
    exact ⟨by simp [own_h, q, nar], e1, rfl⟩
  · skip
    refine W.iconst X1 hx 71 (1 : Int32) (hb hby d1_70) rfl rfl ?_
    refine W.goto X1 hx 123 (hb hby d1_71) (by decide) (by decide) ?_
    refine W.nret X1 hx hlk (t := .boolean) hret (by simp) (hb hby d1_123) (by decide) (by decide) ?_
    exact ⟨by simp [own_h, q, nar], e1, rfl⟩
theorem ef_rmh2 (m : MethodId) (r : Addr) (p1 : Int32) : entryFrame m #[(.ref r), (.int p1)] 2 = mkF m 0 #[.val (.ref r), .val (.int p1)] [] := by first | (simp [entryFrame, mkF, argsToLocals, Value.category]; done) | rfl
set_option maxRecDepth 65536 in
set_option maxHeartbeats 40000000 in
theorem rmh2 (l : Launch) (Z : State) (a0 : Array Value) (hw : ∀ d ∈ tables_1, d.before a0 Z = true) (r : Addr) (p1 : Int32) (h0 : Heap) (E : Exa Z h0 r "com/example/guardnet/guardnet/guard/Operator") (F : Fld Z h0 r "java/lang/Enum" "ordinal" "I" (.int 2)) :
    Con l Z (⟨"com/example/guardnet/guardnet/guard/Operator", "holds", "(I)Z"⟩ : MethodName) prog_48_method_7_code 2 (some .boolean) [] ({ frames := 1, cells := 0, slots := 0, locals := 20 } : Room) #[(.ref r), (.int p1)] h0 (fun v h L => v = some (.int (own_h 2 p1)) ∧ h = h0 ∧ L = []) := by
  refine Con.of (plainFor_of_name pn_1) ?_
  intro p e s m below meth c s₁ hx hby hml hown hnm hret hlk hZ X0 e0
  refine Wp.enter (ef_rmh2 m r p1) ?_
  refine W.aloadN X0 hx 1 (hb hby d1_0) rfl rfl rfl ?_
  refine W.callU X0 hx hZ 4 0 r [] hown (hw _ (List.mem_of_getElem? (i := 23) rfl)) (hw _ (List.mem_of_getElem? (i := 24) rfl)) (hw _ (List.mem_of_getElem? (i := 25) rfl)) (by decide) (hw _ (List.mem_of_getElem? (i := 27) rfl)) (hw _ (List.mem_of_getElem? (i := 26) rfl)) (hw _ (List.mem_of_getElem? (i := 28) rfl)) (hw _ (List.mem_of_getElem? (i := 29) rfl)) pd_0 rfl e0 E (rm2 l Z a0 hw r 2 h0 F) (hb hby d1_1) (by rw [hml]; rfl) rfl rfl (by decide) (by decide) (by decide) (by decide) rfl ?_
  rintro v1 T1 L1 X1 ⟨rfl, e1, rfl⟩
  refine W.tswIn X1 hx 78 74 (hb hby d1_4) (by decide) (by decide) (by decide) (by decide) ?_
  refine W.iloadN X1 hx 79 (hb hby d1_78) rfl rfl ?_
  refine W.ifLe X1 hx 86 82 (hb hby d1_79) (by decide) (by decide) rfl (fun q => ?_) (fun q => ?_)
  · skip
    refine W.iconst X1 hx 87 (0 : Int32) (hb hby d1_86) rfl rfl ?_
    refine W.goto X1 hx 123 (hb hby d1_87) (by decide) (by decide) ?_
    refine W.nret X1 hx hlk (t := .boolean) hret (by simp) (hb hby d1_123) (by decide) (by decide) ?_
    exact ⟨by simp [own_h, q, nar], e1, rfl⟩
  · skip
    refine W.iconst X1 hx 83 (1 : Int32) (hb hby d1_82) rfl rfl ?_
    refine W.goto X1 hx 123 (hb hby d1_83) (by decide) (by decide) ?_
    refine W.nret X1 hx hlk (t := .boolean) hret (by simp) (hb hby d1_123) (by decide) (by decide) ?_
    exact ⟨by simp [own_h, q, nar], e1, rfl⟩
theorem ef_rmh3 (m : MethodId) (r : Addr) (p1 : Int32) : entryFrame m #[(.ref r), (.int p1)] 2 = mkF m 0 #[.val (.ref r), .val (.int p1)] [] := by first | (simp [entryFrame, mkF, argsToLocals, Value.category]; done) | rfl
set_option maxRecDepth 65536 in
set_option maxHeartbeats 40000000 in
theorem rmh3 (l : Launch) (Z : State) (a0 : Array Value) (hw : ∀ d ∈ tables_1, d.before a0 Z = true) (r : Addr) (p1 : Int32) (h0 : Heap) (E : Exa Z h0 r "com/example/guardnet/guardnet/guard/Operator") (F : Fld Z h0 r "java/lang/Enum" "ordinal" "I" (.int 3)) :
    Con l Z (⟨"com/example/guardnet/guardnet/guard/Operator", "holds", "(I)Z"⟩ : MethodName) prog_48_method_7_code 2 (some .boolean) [] ({ frames := 1, cells := 0, slots := 0, locals := 20 } : Room) #[(.ref r), (.int p1)] h0 (fun v h L => v = some (.int (own_h 3 p1)) ∧ h = h0 ∧ L = []) := by
  refine Con.of (plainFor_of_name pn_1) ?_
  intro p e s m below meth c s₁ hx hby hml hown hnm hret hlk hZ X0 e0
  refine Wp.enter (ef_rmh3 m r p1) ?_
  refine W.aloadN X0 hx 1 (hb hby d1_0) rfl rfl rfl ?_
  refine W.callU X0 hx hZ 4 0 r [] hown (hw _ (List.mem_of_getElem? (i := 23) rfl)) (hw _ (List.mem_of_getElem? (i := 24) rfl)) (hw _ (List.mem_of_getElem? (i := 25) rfl)) (by decide) (hw _ (List.mem_of_getElem? (i := 27) rfl)) (hw _ (List.mem_of_getElem? (i := 26) rfl)) (hw _ (List.mem_of_getElem? (i := 28) rfl)) (hw _ (List.mem_of_getElem? (i := 29) rfl)) pd_0 rfl e0 E (rm2 l Z a0 hw r 3 h0 F) (hb hby d1_1) (by rw [hml]; rfl) rfl rfl (by decide) (by decide) (by decide) (by decide) rfl ?_
  rintro v1 T1 L1 X1 ⟨rfl, e1, rfl⟩
  refine W.tswIn X1 hx 90 86 (hb hby d1_4) (by decide) (by decide) (by decide) (by decide) ?_
  refine W.iloadN X1 hx 91 (hb hby d1_90) rfl rfl ?_
  refine W.ifLt X1 hx 98 94 (hb hby d1_91) (by decide) (by decide) rfl (fun q => ?_) (fun q => ?_)
  · skip
    refine W.iconst X1 hx 99 (0 : Int32) (hb hby d1_98) rfl rfl ?_
    refine W.goto X1 hx 123 (hb hby d1_99) (by decide) (by decide) ?_
    refine W.nret X1 hx hlk (t := .boolean) hret (by simp) (hb hby d1_123) (by decide) (by decide) ?_
    exact ⟨by simp [own_h, q, nar], e1, rfl⟩
  · skip
    refine W.iconst X1 hx 95 (1 : Int32) (hb hby d1_94) rfl rfl ?_
    refine W.goto X1 hx 123 (hb hby d1_95) (by decide) (by decide) ?_
    refine W.nret X1 hx hlk (t := .boolean) hret (by simp) (hb hby d1_123) (by decide) (by decide) ?_
    exact ⟨by simp [own_h, q, nar], e1, rfl⟩
theorem ef_rmh4 (m : MethodId) (r : Addr) (p1 : Int32) : entryFrame m #[(.ref r), (.int p1)] 2 = mkF m 0 #[.val (.ref r), .val (.int p1)] [] := by first | (simp [entryFrame, mkF, argsToLocals, Value.category]; done) | rfl
set_option maxRecDepth 65536 in
set_option maxHeartbeats 40000000 in
theorem rmh4 (l : Launch) (Z : State) (a0 : Array Value) (hw : ∀ d ∈ tables_1, d.before a0 Z = true) (r : Addr) (p1 : Int32) (h0 : Heap) (E : Exa Z h0 r "com/example/guardnet/guardnet/guard/Operator") (F : Fld Z h0 r "java/lang/Enum" "ordinal" "I" (.int 4)) :
    Con l Z (⟨"com/example/guardnet/guardnet/guard/Operator", "holds", "(I)Z"⟩ : MethodName) prog_48_method_7_code 2 (some .boolean) [] ({ frames := 1, cells := 0, slots := 0, locals := 20 } : Room) #[(.ref r), (.int p1)] h0 (fun v h L => v = some (.int (own_h 4 p1)) ∧ h = h0 ∧ L = []) := by
  refine Con.of (plainFor_of_name pn_1) ?_
  intro p e s m below meth c s₁ hx hby hml hown hnm hret hlk hZ X0 e0
  refine Wp.enter (ef_rmh4 m r p1) ?_
  refine W.aloadN X0 hx 1 (hb hby d1_0) rfl rfl rfl ?_
  refine W.callU X0 hx hZ 4 0 r [] hown (hw _ (List.mem_of_getElem? (i := 23) rfl)) (hw _ (List.mem_of_getElem? (i := 24) rfl)) (hw _ (List.mem_of_getElem? (i := 25) rfl)) (by decide) (hw _ (List.mem_of_getElem? (i := 27) rfl)) (hw _ (List.mem_of_getElem? (i := 26) rfl)) (hw _ (List.mem_of_getElem? (i := 28) rfl)) (hw _ (List.mem_of_getElem? (i := 29) rfl)) pd_0 rfl e0 E (rm2 l Z a0 hw r 4 h0 F) (hb hby d1_1) (by rw [hml]; rfl) rfl rfl (by decide) (by decide) (by decide) (by decide) rfl ?_
  rintro v1 T1 L1 X1 ⟨rfl, e1, rfl⟩
  refine W.tswIn X1 hx 102 98 (hb hby d1_4) (by decide) (by decide) (by decide) (by decide) ?_
  refine W.iloadN X1 hx 103 (hb hby d1_102) rfl rfl ?_
  refine W.ifNe X1 hx 110 106 (hb hby d1_103) (by decide) (by decide) rfl (fun q => ?_) (fun q => ?_)
  · skip
    refine W.iconst X1 hx 111 (0 : Int32) (hb hby d1_110) rfl rfl ?_
    refine W.goto X1 hx 123 (hb hby d1_111) (by decide) (by decide) ?_
    refine W.nret X1 hx hlk (t := .boolean) hret (by simp) (hb hby d1_123) (by decide) (by decide) ?_
    exact ⟨by simp [own_h, q, nar], e1, rfl⟩
  · skip
    refine W.iconst X1 hx 107 (1 : Int32) (hb hby d1_106) rfl rfl ?_
    refine W.goto X1 hx 123 (hb hby d1_107) (by decide) (by decide) ?_
    refine W.nret X1 hx hlk (t := .boolean) hret (by simp) (hb hby d1_123) (by decide) (by decide) ?_
    exact ⟨by simp [own_h, q, nar], e1, rfl⟩
theorem ef_rmh5 (m : MethodId) (r : Addr) (p1 : Int32) : entryFrame m #[(.ref r), (.int p1)] 2 = mkF m 0 #[.val (.ref r), .val (.int p1)] [] := by first | (simp [entryFrame, mkF, argsToLocals, Value.category]; done) | rfl
set_option maxRecDepth 65536 in
set_option maxHeartbeats 40000000 in
theorem rmh5 (l : Launch) (Z : State) (a0 : Array Value) (hw : ∀ d ∈ tables_1, d.before a0 Z = true) (r : Addr) (p1 : Int32) (h0 : Heap) (E : Exa Z h0 r "com/example/guardnet/guardnet/guard/Operator") (F : Fld Z h0 r "java/lang/Enum" "ordinal" "I" (.int 5)) :
    Con l Z (⟨"com/example/guardnet/guardnet/guard/Operator", "holds", "(I)Z"⟩ : MethodName) prog_48_method_7_code 2 (some .boolean) [] ({ frames := 1, cells := 0, slots := 0, locals := 20 } : Room) #[(.ref r), (.int p1)] h0 (fun v h L => v = some (.int (own_h 5 p1)) ∧ h = h0 ∧ L = []) := by
  refine Con.of (plainFor_of_name pn_1) ?_
  intro p e s m below meth c s₁ hx hby hml hown hnm hret hlk hZ X0 e0
  refine Wp.enter (ef_rmh5 m r p1) ?_
  refine W.aloadN X0 hx 1 (hb hby d1_0) rfl rfl rfl ?_
  refine W.callU X0 hx hZ 4 0 r [] hown (hw _ (List.mem_of_getElem? (i := 23) rfl)) (hw _ (List.mem_of_getElem? (i := 24) rfl)) (hw _ (List.mem_of_getElem? (i := 25) rfl)) (by decide) (hw _ (List.mem_of_getElem? (i := 27) rfl)) (hw _ (List.mem_of_getElem? (i := 26) rfl)) (hw _ (List.mem_of_getElem? (i := 28) rfl)) (hw _ (List.mem_of_getElem? (i := 29) rfl)) pd_0 rfl e0 E (rm2 l Z a0 hw r 5 h0 F) (hb hby d1_1) (by rw [hml]; rfl) rfl rfl (by decide) (by decide) (by decide) (by decide) rfl ?_
  rintro v1 T1 L1 X1 ⟨rfl, e1, rfl⟩
  refine W.tswIn X1 hx 114 110 (hb hby d1_4) (by decide) (by decide) (by decide) (by decide) ?_
  refine W.iloadN X1 hx 115 (hb hby d1_114) rfl rfl ?_
  refine W.ifEq X1 hx 122 118 (hb hby d1_115) (by decide) (by decide) rfl (fun q => ?_) (fun q => ?_)
  · skip
    refine W.iconst X1 hx 123 (0 : Int32) (hb hby d1_122) rfl rfl ?_
    refine W.nret X1 hx hlk (t := .boolean) hret (by simp) (hb hby d1_123) (by decide) (by decide) ?_
    exact ⟨by simp [own_h, q, nar], e1, rfl⟩
  · skip
    refine W.iconst X1 hx 119 (1 : Int32) (hb hby d1_118) rfl rfl ?_
    refine W.goto X1 hx 123 (hb hby d1_119) (by decide) (by decide) ?_
    refine W.nret X1 hx hlk (t := .boolean) hret (by simp) (hb hby d1_123) (by decide) (by decide) ?_
    exact ⟨by simp [own_h, q, nar], e1, rfl⟩
theorem pn_0 : plainName "com/example/guardnet/guardnet/guard/OperatorHoldsPinLaw" = true := by first | (simp [plainName, overriddenIn]; done) | decide +kernel
theorem ef_rm0 (m : MethodId) (p1 : Int32) (p2 : Int32) : entryFrame m #[(.int p1), (.int p2)] maxLocals = mkF m 0 #[.val (.int p1), .val (.int p2), .unset, .unset, .unset, .unset, .unset] [] := by first | (simp [entryFrame, mkF, argsToLocals, Value.category, maxLocals]; done) | rfl
set_option maxRecDepth 65536 in
set_option maxHeartbeats 40000000 in
theorem rm0 (l : Launch) (Z : State) (a0 : Array Value) (hw : ∀ d ∈ tables_1, d.before a0 Z = true) (ws : List Jvm.Cond) (p1 p2 : Int32) (x0 x1 x2 x3 x4 x5 : Addr) (h0 : Heap) (n0 : Nat) (Z0 : n0 ≤ h0.size) (S_x0 : Sta Z h0 "com/example/guardnet/guardnet/guard/Operator" "LT" "Lcom/example/guardnet/guardnet/guard/Operator;" (.ref x0)) (S_x1 : Sta Z h0 "com/example/guardnet/guardnet/guard/Operator" "LE" "Lcom/example/guardnet/guardnet/guard/Operator;" (.ref x1)) (S_x2 : Sta Z h0 "com/example/guardnet/guardnet/guard/Operator" "GT" "Lcom/example/guardnet/guardnet/guard/Operator;" (.ref x2)) (S_x3 : Sta Z h0 "com/example/guardnet/guardnet/guard/Operator" "GE" "Lcom/example/guardnet/guardnet/guard/Operator;" (.ref x3)) (S_x4 : Sta Z h0 "com/example/guardnet/guardnet/guard/Operator" "EQ" "Lcom/example/guardnet/guardnet/guard/Operator;" (.ref x4)) (S_x5 : Sta Z h0 "com/example/guardnet/guardnet/guard/Operator" "NE" "Lcom/example/guardnet/guardnet/guard/Operator;" (.ref x5)) (E_x0 : Exa Z h0 x0 "com/example/guardnet/guardnet/guard/Operator") (E_x1 : Exa Z h0 x1 "com/example/guardnet/guardnet/guard/Operator") (E_x2 : Exa Z h0 x2 "com/example/guardnet/guardnet/guard/Operator") (E_x3 : Exa Z h0 x3 "com/example/guardnet/guardnet/guard/Operator") (E_x4 : Exa Z h0 x4 "com/example/guardnet/guardnet/guard/Operator") (E_x5 : Exa Z h0 x5 "com/example/guardnet/guardnet/guard/Operator") (F_x0 : Fld Z h0 x0 "java/lang/Enum" "ordinal" "I" (.int 0)) (F_x1 : Fld Z h0 x1 "java/lang/Enum" "ordinal" "I" (.int 1)) (F_x2 : Fld Z h0 x2 "java/lang/Enum" "ordinal" "I" (.int 2)) (F_x3 : Fld Z h0 x3 "java/lang/Enum" "ordinal" "I" (.int 3)) (F_x4 : Fld Z h0 x4 "java/lang/Enum" "ordinal" "I" (.int 4)) (F_x5 : Fld Z h0 x5 "java/lang/Enum" "ordinal" "I" (.int 5)) :
    Con l Z x code maxLocals ret ws room_1 #[(.int p1), (.int p2)] h0 (fun v h L => v = some (.int 1) ∧ Fr n0 L) := by
  refine Con.of (plainFor_of_name pn_0) ?_
  intro p e s m below meth c s₁ hx hby hml hown hnm hret hlk hZ X0 e0
  refine Wp.enter (ef_rm0 m p1 p2) ?_
  have EX := ext_refl h0
  refine W.bipush X0 hx 2 (6 : Int32) (hb hby at_0) rfl rfl ?_
  refine W.newR X0 hx hZ 5 6 6 hown (hw _ (List.mem_of_getElem? (i := 0) rfl)) (hw _ (List.mem_of_getElem? (i := 1) rfl)) e0 (hb hby at_2) (by decide) (by decide) (by decide) (by decide) (by decide) rfl ?_
  intro T1 h1 X1 e1 E1 A TA
  obtain ⟨a1, q1⟩ : ∃ z, z = h0.size := ⟨_, rfl⟩
  rw [← q1] at A TA ⊢
  have ge_a1 : n0 ≤ a1 := by have := Z0; omega
  have gx_a1 : h0.size ≤ a1 := by have := EX.1; omega
  have z1 : n0 ≤ h1.size := Nat.le_trans Z0 E1.1
  have EX := ext_trans EX E1
  refine W.dup X1 hx 6 (hb hby at_5) rfl rfl ?_
  refine W.iconst X1 hx 7 (0 : Int32) (hb hby at_6) rfl rfl ?_
  refine W.getS X1 hx hZ 10 hown (hw _ (List.mem_of_getElem? (i := 2) rfl)) Via.refl e1 (S_x0.ext EX) (hb hby at_7) rfl ?_
  intro T2 X2 e2
  refine W.aastore X2 hx hZ 11 0 e2 A rfl (TA.sto (Ins.self (E_x0.ext EX))) (by decide) (by decide) (hb hby at_10) rfl ?_
  intro T3 h3 X3 e3 W3 A
  have TA := TA.wr W3
  have z3 : n0 ≤ h3.size := by rw [W3.size]; exact z1
  have EX := ext_wr EX W3 gx_a1
  refine W.dup X3 hx 12 (hb hby at_11) rfl rfl ?_
  refine W.iconst X3 hx 13 (1 : Int32) (hb hby at_12) rfl rfl ?_
  refine W.getS X3 hx hZ 16 hown (hw _ (List.mem_of_getElem? (i := 6) rfl)) Via.refl e3 (S_x1.ext EX) (hb hby at_13) rfl ?_
  intro T4 X4 e4
  refine W.aastore X4 hx hZ 17 1 e4 A rfl (TA.sto (Ins.self (E_x1.ext EX))) (by decide) (by decide) (hb hby at_16) rfl ?_
  intro T5 h5 X5 e5 W5 A
  have TA := TA.wr W5
  have z5 : n0 ≤ h5.size := by rw [W5.size]; exact z3
  have EX := ext_wr EX W5 gx_a1
  refine W.dup X5 hx 18 (hb hby at_17) rfl rfl ?_
  refine W.iconst X5 hx 19 (2 : Int32) (hb hby at_18) rfl rfl ?_
  refine W.getS X5 hx hZ 22 hown (hw _ (List.mem_of_getElem? (i := 8) rfl)) Via.refl e5 (S_x2.ext EX) (hb hby at_19) rfl ?_
  intro T6 X6 e6
  refine W.aastore X6 hx hZ 23 2 e6 A rfl (TA.sto (Ins.self (E_x2.ext EX))) (by decide) (by decide) (hb hby at_22) rfl ?_
  intro T7 h7 X7 e7 W7 A
  have TA := TA.wr W7
  have z7 : n0 ≤ h7.size := by rw [W7.size]; exact z5
  have EX := ext_wr EX W7 gx_a1
  refine W.dup X7 hx 24 (hb hby at_23) rfl rfl ?_
  refine W.iconst X7 hx 25 (3 : Int32) (hb hby at_24) rfl rfl ?_
  refine W.getS X7 hx hZ 28 hown (hw _ (List.mem_of_getElem? (i := 10) rfl)) Via.refl e7 (S_x3.ext EX) (hb hby at_25) rfl ?_
  intro T8 X8 e8
  refine W.aastore X8 hx hZ 29 3 e8 A rfl (TA.sto (Ins.self (E_x3.ext EX))) (by decide) (by decide) (hb hby at_28) rfl ?_
  intro T9 h9 X9 e9 W9 A
  have TA := TA.wr W9
  have z9 : n0 ≤ h9.size := by rw [W9.size]; exact z7
  have EX := ext_wr EX W9 gx_a1
  refine W.dup X9 hx 30 (hb hby at_29) rfl rfl ?_
  refine W.iconst X9 hx 31 (4 : Int32) (hb hby at_30) rfl rfl ?_
  refine W.getS X9 hx hZ 34 hown (hw _ (List.mem_of_getElem? (i := 12) rfl)) Via.refl e9 (S_x4.ext EX) (hb hby at_31) rfl ?_
  intro T10 X10 e10
  refine W.aastore X10 hx hZ 35 4 e10 A rfl (TA.sto (Ins.self (E_x4.ext EX))) (by decide) (by decide) (hb hby at_34) rfl ?_
  intro T11 h11 X11 e11 W11 A
  have TA := TA.wr W11
  have z11 : n0 ≤ h11.size := by rw [W11.size]; exact z9
  have EX := ext_wr EX W11 gx_a1
  refine W.dup X11 hx 36 (hb hby at_35) rfl rfl ?_
  refine W.iconst X11 hx 37 (5 : Int32) (hb hby at_36) rfl rfl ?_
  refine W.getS X11 hx hZ 40 hown (hw _ (List.mem_of_getElem? (i := 14) rfl)) Via.refl e11 (S_x5.ext EX) (hb hby at_37) rfl ?_
  intro T12 X12 e12
  refine W.aastore X12 hx hZ 41 5 e12 A rfl (TA.sto (Ins.self (E_x5.ext EX))) (by decide) (by decide) (hb hby at_40) rfl ?_
  intro T13 h13 X13 e13 W13 A
  have TA := TA.wr W13
  have z13 : n0 ≤ h13.size := by rw [W13.size]; exact z11
  have EX := ext_wr EX W13 gx_a1
  refine W.astoreN X13 hx 42 #[.val (.int p1), .val (.int p2), .val (.ref a1), .unset, .unset, .unset, .unset] (hb hby at_41) rfl rfl rfl ?_
  refine W.bipush X13 hx 44 (6 : Int32) (hb hby at_42) rfl rfl ?_
  refine W.newarr X13 hx hZ 46 6 6 (hw _ (List.mem_of_getElem? (i := 16) rfl)) e13 (hb hby at_44) (by decide) (by decide) (by decide) (by decide) (by decide) rfl ?_
  intro T14 h14 X14 e14 E14 B
  obtain ⟨a14, q14⟩ : ∃ z, z = h13.size := ⟨_, rfl⟩
  rw [← q14] at B ⊢
  have ne_a1_a14 : a1 ≠ a14 := fun q => by have := A.lt; rw [q, q14] at this; exact Nat.lt_irrefl _ this
  have ge_a14 : n0 ≤ a14 := by have := z13; omega
  have gx_a14 : h0.size ≤ a14 := by have := EX.1; omega
  have A := A.ext E14
  have TA := TA.ext E14
  have z14 : n0 ≤ h14.size := Nat.le_trans z13 E14.1
  have EX := ext_trans EX E14
  refine W.dup X14 hx 47 (hb hby at_46) rfl rfl ?_
  refine W.iconst X14 hx 48 (0 : Int32) (hb hby at_47) rfl rfl ?_
  refine W.iconst X14 hx 49 (1 : Int32) (hb hby at_48) rfl rfl ?_
  refine W.iastore X14 hx hZ 50 0 e14 B (by decide) (by decide) (hb hby at_49) rfl ?_
  intro T15 h15 X15 e15 W15 B
  have A := A.other W15 ne_a1_a14
  have TA := TA.wr W15
  have z15 : n0 ≤ h15.size := by rw [W15.size]; exact z14
  have EX := ext_wr EX W15 gx_a14
  refine W.dup X15 hx 51 (hb hby at_50) rfl rfl ?_
  refine W.iconst X15 hx 52 (1 : Int32) (hb hby at_51) rfl rfl ?_
  refine W.iconst X15 hx 53 (3 : Int32) (hb hby at_52) rfl rfl ?_
  refine W.iastore X15 hx hZ 54 1 e15 B (by decide) (by decide) (hb hby at_53) rfl ?_
  intro T16 h16 X16 e16 W16 B
  have A := A.other W16 ne_a1_a14
  have TA := TA.wr W16
  have z16 : n0 ≤ h16.size := by rw [W16.size]; exact z15
  have EX := ext_wr EX W16 gx_a14
  refine W.dup X16 hx 55 (hb hby at_54) rfl rfl ?_
  refine W.iconst X16 hx 56 (2 : Int32) (hb hby at_55) rfl rfl ?_
  refine W.iconst X16 hx 57 (4 : Int32) (hb hby at_56) rfl rfl ?_
  refine W.iastore X16 hx hZ 58 2 e16 B (by decide) (by decide) (hb hby at_57) rfl ?_
  intro T17 h17 X17 e17 W17 B
  have A := A.other W17 ne_a1_a14
  have TA := TA.wr W17
  have z17 : n0 ≤ h17.size := by rw [W17.size]; exact z16
  have EX := ext_wr EX W17 gx_a14
  refine W.dup X17 hx 59 (hb hby at_58) rfl rfl ?_
  refine W.iconst X17 hx 60 (3 : Int32) (hb hby at_59) rfl rfl ?_
  refine W.bipush X17 hx 62 (6 : Int32) (hb hby at_60) rfl rfl ?_
  refine W.iastore X17 hx hZ 63 3 e17 B (by decide) (by decide) (hb hby at_62) rfl ?_
  intro T18 h18 X18 e18 W18 B
  have A := A.other W18 ne_a1_a14
  have TA := TA.wr W18
  have z18 : n0 ≤ h18.size := by rw [W18.size]; exact z17
  have EX := ext_wr EX W18 gx_a14
  refine W.dup X18 hx 64 (hb hby at_63) rfl rfl ?_
  refine W.iconst X18 hx 65 (4 : Int32) (hb hby at_64) rfl rfl ?_
  refine W.iconst X18 hx 66 (2 : Int32) (hb hby at_65) rfl rfl ?_
  refine W.iastore X18 hx hZ 67 4 e18 B (by decide) (by decide) (hb hby at_66) rfl ?_
  intro T19 h19 X19 e19 W19 B
  have A := A.other W19 ne_a1_a14
  have TA := TA.wr W19
  have z19 : n0 ≤ h19.size := by rw [W19.size]; exact z18
  have EX := ext_wr EX W19 gx_a14
  refine W.dup X19 hx 68 (hb hby at_67) rfl rfl ?_
  refine W.iconst X19 hx 69 (5 : Int32) (hb hby at_68) rfl rfl ?_
  refine W.iconst X19 hx 70 (5 : Int32) (hb hby at_69) rfl rfl ?_
  refine W.iastore X19 hx hZ 71 5 e19 B (by decide) (by decide) (hb hby at_70) rfl ?_
  intro T20 h20 X20 e20 W20 B
  have A := A.other W20 ne_a1_a14
  have TA := TA.wr W20
  have z20 : n0 ≤ h20.size := by rw [W20.size]; exact z19
  have EX := ext_wr EX W20 gx_a14
  refine W.astoreN X20 hx 72 #[.val (.int p1), .val (.int p2), .val (.ref a1), .val (.ref a14), .unset, .unset, .unset] (hb hby at_71) rfl rfl rfl ?_
  refine W.iloadN X20 hx 73 (hb hby at_72) rfl rfl ?_
  refine W.ldcI X20 hx hZ 75 hown (hw _ (List.mem_of_getElem? (i := 17) rfl)) (hb hby at_73) rfl ?_
  refine W.iand X20 hx 76 (hb hby at_75) rfl ?_
  refine W.bipush X20 hx 78 (6 : Int32) (hb hby at_76) rfl rfl ?_
  refine W.irem X20 hx 79 (hb hby at_78) (by decide) rfl ?_
  obtain ⟨r, hr, er⟩ := own_and p1 2147483647 (by decide)
  obtain ⟨i, hi, ei, -⟩ := own_rem (x := p1 &&& 2147483647) (y := 6) (by omega) (by decide)
  have hi' : i < 6 := by have e : (6 : Int32).toInt = 6 := rfl; omega
  generalize g_kk : ((p1 &&& (2147483647 : Int32)) % (6 : Int32)) = kk
  rw [g_kk] at ei
  refine W.istore X20 hx 81 #[.val (.int p1), .val (.int p2), .val (.ref a1), .val (.ref a14), .val (.int kk), .unset, .unset] (hb hby at_79) rfl rfl ?_
  refine W.iloadN X20 hx 82 (hb hby at_81) rfl rfl ?_
  refine W.ifGe X20 hx 89 85 (hb hby at_82) (by decide) (by decide) rfl (fun q1 => ?_) (fun q1 => ?_)
  · skip
    refine W.iloadN X20 hx 90 (hb hby at_89) rfl rfl ?_
    refine W.ifNe X20 hx 97 93 (hb hby at_90) (by decide) (by decide) rfl (fun q2 => ?_) (fun q2 => ?_)
    · skip
      refine W.iconst X20 hx 98 (2 : Int32) (hb hby at_97) rfl rfl ?_
      refine W.istore X20 hx 100 #[.val (.int p1), .val (.int p2), .val (.ref a1), .val (.ref a14), .val (.int kk), .val (.int (2 : Int32)), .unset] (hb hby at_98) rfl rfl ?_
      refine W.aloadN X20 hx 101 (hb hby at_100) rfl rfl rfl ?_
      refine W.iload X20 hx 103 (hb hby at_101) rfl rfl ?_
      have q3 : (0 : Int32) < p2 := by
        rw [Int32.lt_iff_toInt_lt] at q1 ⊢
        have e0 : (0 : Int32).toInt = 0 := rfl
        have : p2.toInt ≠ 0 := fun z => q2 (Int32.toInt_inj.mp z)
        omega
      have hcase : i = 0 ∨ i = 1 ∨ i = 2 ∨ i = 3 ∨ i = 4 ∨ i = 5 := by omega
      rcases hcase with rfl | rfl | rfl | rfl | rfl | rfl
      · skip
        refine W.iaload X20 hx hZ 104 0 (.int (1 : Int32)) e20 B ei (by decide) rfl (hb hby at_103) rfl ?_
        refine W.iload X20 hx 106 (hb hby at_104) rfl rfl ?_
        refine W.ishr X20 hx 107 (hb hby at_106) rfl ?_
        refine W.iconst X20 hx 108 (1 : Int32) (hb hby at_107) rfl rfl ?_
        refine W.iand X20 hx 109 (hb hby at_108) rfl ?_
        refine W.ifEq X20 hx 116 112 (hb hby at_109) (by decide) (by decide) rfl (fun qm => ?_) (fun qm => ?_)
        · skip
          refine W.iconst X20 hx 117 (0 : Int32) (hb hby at_116) rfl rfl ?_
          refine W.istore X20 hx 119 #[.val (.int p1), .val (.int p2), .val (.ref a1), .val (.ref a14), .val (.int kk), .val (.int (2 : Int32)), .val (.int (0 : Int32))] (hb hby at_117) rfl rfl ?_
          refine W.aloadN X20 hx 120 (hb hby at_119) rfl rfl rfl ?_
          refine W.iload X20 hx 122 (hb hby at_120) rfl rfl ?_
          refine W.aaload X20 hx hZ 123 0 (.ref x0) e20 A rfl ei (by decide) rfl (hb hby at_122) rfl ?_
          refine W.iloadN X20 hx 124 (hb hby at_123) rfl rfl ?_
          refine W.callV X20 hx hZ 127 0 x0 [(.int p2)] hown (hw _ (List.mem_of_getElem? (i := 18) rfl)) (hw _ (List.mem_of_getElem? (i := 19) rfl)) (hw _ (List.mem_of_getElem? (i := 21) rfl)) (hw _ (List.mem_of_getElem? (i := 20) rfl)) (hw _ (List.mem_of_getElem? (i := 3) rfl)) (hw _ (List.mem_of_getElem? (i := 22) rfl)) (by decide) pd_1 rfl e20 (E_x0.ext EX) (rmh0 l Z a0 hw x0 p2 h20 (E_x0.ext EX) (F_x0.ext EX)) (hb hby at_124) (by rw [hml]; rfl) rfl rfl (by decide) (by decide) (by decide) (by decide) rfl ?_
          rintro v21 T21 L21 X21 ⟨rfl, e21, rfl⟩
          refine W.iload X21 hx 129 (hb hby at_127) rfl rfl ?_
          refine W.icmpNe X21 hx 136 132 (hb hby at_129) (by decide) (by decide) rfl (fun qz => ?_) (fun qz => ?_)
          · exact absurd (by simp [own_h, q1, q2, q3]) qz
          · skip
            refine W.iconst X21 hx 133 (1 : Int32) (hb hby at_132) rfl rfl ?_
            refine W.goto X21 hx 137 (hb hby at_133) (by decide) (by decide) ?_
            refine W.nret X21 hx hlk (t := .boolean) hret (by simp) (hb hby at_137) (by decide) (by decide) ?_
            exact ⟨rfl, (Fr.app (Fr.app (Fr.app (Fr.app (Fr.app (Fr.app (Fr.app (Fr.app (Fr.app (Fr.app (Fr.app (Fr.app (Fr.app (Fr.nil _) (fr1 ge_a1)) (fr1 ge_a1)) (fr1 ge_a1)) (fr1 ge_a1)) (fr1 ge_a1)) (fr1 ge_a1)) (fr1 ge_a14)) (fr1 ge_a14)) (fr1 ge_a14)) (fr1 ge_a14)) (fr1 ge_a14)) (fr1 ge_a14)) (Fr.nil _))⟩
        · exact absurd (by decide) qm
      · skip
        refine W.iaload X20 hx hZ 104 1 (.int (3 : Int32)) e20 B ei (by decide) rfl (hb hby at_103) rfl ?_
        refine W.iload X20 hx 106 (hb hby at_104) rfl rfl ?_
        refine W.ishr X20 hx 107 (hb hby at_106) rfl ?_
        refine W.iconst X20 hx 108 (1 : Int32) (hb hby at_107) rfl rfl ?_
        refine W.iand X20 hx 109 (hb hby at_108) rfl ?_
        refine W.ifEq X20 hx 116 112 (hb hby at_109) (by decide) (by decide) rfl (fun qm => ?_) (fun qm => ?_)
        · skip
          refine W.iconst X20 hx 117 (0 : Int32) (hb hby at_116) rfl rfl ?_
          refine W.istore X20 hx 119 #[.val (.int p1), .val (.int p2), .val (.ref a1), .val (.ref a14), .val (.int kk), .val (.int (2 : Int32)), .val (.int (0 : Int32))] (hb hby at_117) rfl rfl ?_
          refine W.aloadN X20 hx 120 (hb hby at_119) rfl rfl rfl ?_
          refine W.iload X20 hx 122 (hb hby at_120) rfl rfl ?_
          refine W.aaload X20 hx hZ 123 1 (.ref x1) e20 A rfl ei (by decide) rfl (hb hby at_122) rfl ?_
          refine W.iloadN X20 hx 124 (hb hby at_123) rfl rfl ?_
          refine W.callV X20 hx hZ 127 0 x1 [(.int p2)] hown (hw _ (List.mem_of_getElem? (i := 18) rfl)) (hw _ (List.mem_of_getElem? (i := 19) rfl)) (hw _ (List.mem_of_getElem? (i := 21) rfl)) (hw _ (List.mem_of_getElem? (i := 20) rfl)) (hw _ (List.mem_of_getElem? (i := 3) rfl)) (hw _ (List.mem_of_getElem? (i := 22) rfl)) (by decide) pd_1 rfl e20 (E_x1.ext EX) (rmh1 l Z a0 hw x1 p2 h20 (E_x1.ext EX) (F_x1.ext EX)) (hb hby at_124) (by rw [hml]; rfl) rfl rfl (by decide) (by decide) (by decide) (by decide) rfl ?_
          rintro v22 T22 L22 X22 ⟨rfl, e22, rfl⟩
          refine W.iload X22 hx 129 (hb hby at_127) rfl rfl ?_
          refine W.icmpNe X22 hx 136 132 (hb hby at_129) (by decide) (by decide) rfl (fun qz => ?_) (fun qz => ?_)
          · exact absurd (by simp [own_h, q1, q2, q3]) qz
          · skip
            refine W.iconst X22 hx 133 (1 : Int32) (hb hby at_132) rfl rfl ?_
            refine W.goto X22 hx 137 (hb hby at_133) (by decide) (by decide) ?_
            refine W.nret X22 hx hlk (t := .boolean) hret (by simp) (hb hby at_137) (by decide) (by decide) ?_
            exact ⟨rfl, (Fr.app (Fr.app (Fr.app (Fr.app (Fr.app (Fr.app (Fr.app (Fr.app (Fr.app (Fr.app (Fr.app (Fr.app (Fr.app (Fr.nil _) (fr1 ge_a1)) (fr1 ge_a1)) (fr1 ge_a1)) (fr1 ge_a1)) (fr1 ge_a1)) (fr1 ge_a1)) (fr1 ge_a14)) (fr1 ge_a14)) (fr1 ge_a14)) (fr1 ge_a14)) (fr1 ge_a14)) (fr1 ge_a14)) (Fr.nil _))⟩
        · exact absurd (by decide) qm
      · skip
        refine W.iaload X20 hx hZ 104 2 (.int (4 : Int32)) e20 B ei (by decide) rfl (hb hby at_103) rfl ?_
        refine W.iload X20 hx 106 (hb hby at_104) rfl rfl ?_
        refine W.ishr X20 hx 107 (hb hby at_106) rfl ?_
        refine W.iconst X20 hx 108 (1 : Int32) (hb hby at_107) rfl rfl ?_
        refine W.iand X20 hx 109 (hb hby at_108) rfl ?_
        refine W.ifEq X20 hx 116 112 (hb hby at_109) (by decide) (by decide) rfl (fun qm => ?_) (fun qm => ?_)
        · exact absurd qm (by decide)
        · skip
          refine W.iconst X20 hx 113 (1 : Int32) (hb hby at_112) rfl rfl ?_
          refine W.goto X20 hx 117 (hb hby at_113) (by decide) (by decide) ?_
          refine W.istore X20 hx 119 #[.val (.int p1), .val (.int p2), .val (.ref a1), .val (.ref a14), .val (.int kk), .val (.int (2 : Int32)), .val (.int (1 : Int32))] (hb hby at_117) rfl rfl ?_
          refine W.aloadN X20 hx 120 (hb hby at_119) rfl rfl rfl ?_
          refine W.iload X20 hx 122 (hb hby at_120) rfl rfl ?_
          refine W.aaload X20 hx hZ 123 2 (.ref x2) e20 A rfl ei (by decide) rfl (hb hby at_122) rfl ?_
          refine W.iloadN X20 hx 124 (hb hby at_123) rfl rfl ?_
          refine W.callV X20 hx hZ 127 0 x2 [(.int p2)] hown (hw _ (List.mem_of_getElem? (i := 18) rfl)) (hw _ (List.mem_of_getElem? (i := 19) rfl)) (hw _ (List.mem_of_getElem? (i := 21) rfl)) (hw _ (List.mem_of_getElem? (i := 20) rfl)) (hw _ (List.mem_of_getElem? (i := 3) rfl)) (hw _ (List.mem_of_getElem? (i := 22) rfl)) (by decide) pd_1 rfl e20 (E_x2.ext EX) (rmh2 l Z a0 hw x2 p2 h20 (E_x2.ext EX) (F_x2.ext EX)) (hb hby at_124) (by rw [hml]; rfl) rfl rfl (by decide) (by decide) (by decide) (by decide) rfl ?_
          rintro v23 T23 L23 X23 ⟨rfl, e23, rfl⟩
          refine W.iload X23 hx 129 (hb hby at_127) rfl rfl ?_
          refine W.icmpNe X23 hx 136 132 (hb hby at_129) (by decide) (by decide) rfl (fun qz => ?_) (fun qz => ?_)
          · exact absurd (by simp [own_h, q1, q2, q3]) qz
          · skip
            refine W.iconst X23 hx 133 (1 : Int32) (hb hby at_132) rfl rfl ?_
            refine W.goto X23 hx 137 (hb hby at_133) (by decide) (by decide) ?_
            refine W.nret X23 hx hlk (t := .boolean) hret (by simp) (hb hby at_137) (by decide) (by decide) ?_
            exact ⟨rfl, (Fr.app (Fr.app (Fr.app (Fr.app (Fr.app (Fr.app (Fr.app (Fr.app (Fr.app (Fr.app (Fr.app (Fr.app (Fr.app (Fr.nil _) (fr1 ge_a1)) (fr1 ge_a1)) (fr1 ge_a1)) (fr1 ge_a1)) (fr1 ge_a1)) (fr1 ge_a1)) (fr1 ge_a14)) (fr1 ge_a14)) (fr1 ge_a14)) (fr1 ge_a14)) (fr1 ge_a14)) (fr1 ge_a14)) (Fr.nil _))⟩
      · skip
        refine W.iaload X20 hx hZ 104 3 (.int (6 : Int32)) e20 B ei (by decide) rfl (hb hby at_103) rfl ?_
        refine W.iload X20 hx 106 (hb hby at_104) rfl rfl ?_
        refine W.ishr X20 hx 107 (hb hby at_106) rfl ?_
        refine W.iconst X20 hx 108 (1 : Int32) (hb hby at_107) rfl rfl ?_
        refine W.iand X20 hx 109 (hb hby at_108) rfl ?_
        refine W.ifEq X20 hx 116 112 (hb hby at_109) (by decide) (by decide) rfl (fun qm => ?_) (fun qm => ?_)
        · exact absurd qm (by decide)
        · skip
          refine W.iconst X20 hx 113 (1 : Int32) (hb hby at_112) rfl rfl ?_
          refine W.goto X20 hx 117 (hb hby at_113) (by decide) (by decide) ?_
          refine W.istore X20 hx 119 #[.val (.int p1), .val (.int p2), .val (.ref a1), .val (.ref a14), .val (.int kk), .val (.int (2 : Int32)), .val (.int (1 : Int32))] (hb hby at_117) rfl rfl ?_
          refine W.aloadN X20 hx 120 (hb hby at_119) rfl rfl rfl ?_
          refine W.iload X20 hx 122 (hb hby at_120) rfl rfl ?_
          refine W.aaload X20 hx hZ 123 3 (.ref x3) e20 A rfl ei (by decide) rfl (hb hby at_122) rfl ?_
          refine W.iloadN X20 hx 124 (hb hby at_123) rfl rfl ?_
          refine W.callV X20 hx hZ 127 0 x3 [(.int p2)] hown (hw _ (List.mem_of_getElem? (i := 18) rfl)) (hw _ (List.mem_of_getElem? (i := 19) rfl)) (hw _ (List.mem_of_getElem? (i := 21) rfl)) (hw _ (List.mem_of_getElem? (i := 20) rfl)) (hw _ (List.mem_of_getElem? (i := 3) rfl)) (hw _ (List.mem_of_getElem? (i := 22) rfl)) (by decide) pd_1 rfl e20 (E_x3.ext EX) (rmh3 l Z a0 hw x3 p2 h20 (E_x3.ext EX) (F_x3.ext EX)) (hb hby at_124) (by rw [hml]; rfl) rfl rfl (by decide) (by decide) (by decide) (by decide) rfl ?_
          rintro v24 T24 L24 X24 ⟨rfl, e24, rfl⟩
          refine W.iload X24 hx 129 (hb hby at_127) rfl rfl ?_
          refine W.icmpNe X24 hx 136 132 (hb hby at_129) (by decide) (by decide) rfl (fun qz => ?_) (fun qz => ?_)
          · exact absurd (by simp [own_h, q1, q2, q3]) qz
          · skip
            refine W.iconst X24 hx 133 (1 : Int32) (hb hby at_132) rfl rfl ?_
            refine W.goto X24 hx 137 (hb hby at_133) (by decide) (by decide) ?_
            refine W.nret X24 hx hlk (t := .boolean) hret (by simp) (hb hby at_137) (by decide) (by decide) ?_
            exact ⟨rfl, (Fr.app (Fr.app (Fr.app (Fr.app (Fr.app (Fr.app (Fr.app (Fr.app (Fr.app (Fr.app (Fr.app (Fr.app (Fr.app (Fr.nil _) (fr1 ge_a1)) (fr1 ge_a1)) (fr1 ge_a1)) (fr1 ge_a1)) (fr1 ge_a1)) (fr1 ge_a1)) (fr1 ge_a14)) (fr1 ge_a14)) (fr1 ge_a14)) (fr1 ge_a14)) (fr1 ge_a14)) (fr1 ge_a14)) (Fr.nil _))⟩
      · skip
        refine W.iaload X20 hx hZ 104 4 (.int (2 : Int32)) e20 B ei (by decide) rfl (hb hby at_103) rfl ?_
        refine W.iload X20 hx 106 (hb hby at_104) rfl rfl ?_
        refine W.ishr X20 hx 107 (hb hby at_106) rfl ?_
        refine W.iconst X20 hx 108 (1 : Int32) (hb hby at_107) rfl rfl ?_
        refine W.iand X20 hx 109 (hb hby at_108) rfl ?_
        refine W.ifEq X20 hx 116 112 (hb hby at_109) (by decide) (by decide) rfl (fun qm => ?_) (fun qm => ?_)
        · skip
          refine W.iconst X20 hx 117 (0 : Int32) (hb hby at_116) rfl rfl ?_
          refine W.istore X20 hx 119 #[.val (.int p1), .val (.int p2), .val (.ref a1), .val (.ref a14), .val (.int kk), .val (.int (2 : Int32)), .val (.int (0 : Int32))] (hb hby at_117) rfl rfl ?_
          refine W.aloadN X20 hx 120 (hb hby at_119) rfl rfl rfl ?_
          refine W.iload X20 hx 122 (hb hby at_120) rfl rfl ?_
          refine W.aaload X20 hx hZ 123 4 (.ref x4) e20 A rfl ei (by decide) rfl (hb hby at_122) rfl ?_
          refine W.iloadN X20 hx 124 (hb hby at_123) rfl rfl ?_
          refine W.callV X20 hx hZ 127 0 x4 [(.int p2)] hown (hw _ (List.mem_of_getElem? (i := 18) rfl)) (hw _ (List.mem_of_getElem? (i := 19) rfl)) (hw _ (List.mem_of_getElem? (i := 21) rfl)) (hw _ (List.mem_of_getElem? (i := 20) rfl)) (hw _ (List.mem_of_getElem? (i := 3) rfl)) (hw _ (List.mem_of_getElem? (i := 22) rfl)) (by decide) pd_1 rfl e20 (E_x4.ext EX) (rmh4 l Z a0 hw x4 p2 h20 (E_x4.ext EX) (F_x4.ext EX)) (hb hby at_124) (by rw [hml]; rfl) rfl rfl (by decide) (by decide) (by decide) (by decide) rfl ?_
          rintro v25 T25 L25 X25 ⟨rfl, e25, rfl⟩
          refine W.iload X25 hx 129 (hb hby at_127) rfl rfl ?_
          refine W.icmpNe X25 hx 136 132 (hb hby at_129) (by decide) (by decide) rfl (fun qz => ?_) (fun qz => ?_)
          · exact absurd (by simp [own_h, q1, q2, q3]) qz
          · skip
            refine W.iconst X25 hx 133 (1 : Int32) (hb hby at_132) rfl rfl ?_
            refine W.goto X25 hx 137 (hb hby at_133) (by decide) (by decide) ?_
            refine W.nret X25 hx hlk (t := .boolean) hret (by simp) (hb hby at_137) (by decide) (by decide) ?_
            exact ⟨rfl, (Fr.app (Fr.app (Fr.app (Fr.app (Fr.app (Fr.app (Fr.app (Fr.app (Fr.app (Fr.app (Fr.app (Fr.app (Fr.app (Fr.nil _) (fr1 ge_a1)) (fr1 ge_a1)) (fr1 ge_a1)) (fr1 ge_a1)) (fr1 ge_a1)) (fr1 ge_a1)) (fr1 ge_a14)) (fr1 ge_a14)) (fr1 ge_a14)) (fr1 ge_a14)) (fr1 ge_a14)) (fr1 ge_a14)) (Fr.nil _))⟩
        · exact absurd (by decide) qm
      · skip
        refine W.iaload X20 hx hZ 104 5 (.int (5 : Int32)) e20 B ei (by decide) rfl (hb hby at_103) rfl ?_
        refine W.iload X20 hx 106 (hb hby at_104) rfl rfl ?_
        refine W.ishr X20 hx 107 (hb hby at_106) rfl ?_
        refine W.iconst X20 hx 108 (1 : Int32) (hb hby at_107) rfl rfl ?_
        refine W.iand X20 hx 109 (hb hby at_108) rfl ?_
        refine W.ifEq X20 hx 116 112 (hb hby at_109) (by decide) (by decide) rfl (fun qm => ?_) (fun qm => ?_)
        · exact absurd qm (by decide)
        · skip
          refine W.iconst X20 hx 113 (1 : Int32) (hb hby at_112) rfl rfl ?_
          refine W.goto X20 hx 117 (hb hby at_113) (by decide) (by decide) ?_
          refine W.istore X20 hx 119 #[.val (.int p1), .val (.int p2), .val (.ref a1), .val (.ref a14), .val (.int kk), .val (.int (2 : Int32)), .val (.int (1 : Int32))] (hb hby at_117) rfl rfl ?_
          refine W.aloadN X20 hx 120 (hb hby at_119) rfl rfl rfl ?_
          refine W.iload X20 hx 122 (hb hby at_120) rfl rfl ?_
          refine W.aaload X20 hx hZ 123 5 (.ref x5) e20 A rfl ei (by decide) rfl (hb hby at_122) rfl ?_
          refine W.iloadN X20 hx 124 (hb hby at_123) rfl rfl ?_
          refine W.callV X20 hx hZ 127 0 x5 [(.int p2)] hown (hw _ (List.mem_of_getElem? (i := 18) rfl)) (hw _ (List.mem_of_getElem? (i := 19) rfl)) (hw _ (List.mem_of_getElem? (i := 21) rfl)) (hw _ (List.mem_of_getElem? (i := 20) rfl)) (hw _ (List.mem_of_getElem? (i := 3) rfl)) (hw _ (List.mem_of_getElem? (i := 22) rfl)) (by decide) pd_1 rfl e20 (E_x5.ext EX) (rmh5 l Z a0 hw x5 p2 h20 (E_x5.ext EX) (F_x5.ext EX)) (hb hby at_124) (by rw [hml]; rfl) rfl rfl (by decide) (by decide) (by decide) (by decide) rfl ?_
          rintro v26 T26 L26 X26 ⟨rfl, e26, rfl⟩
          refine W.iload X26 hx 129 (hb hby at_127) rfl rfl ?_
          refine W.icmpNe X26 hx 136 132 (hb hby at_129) (by decide) (by decide) rfl (fun qz => ?_) (fun qz => ?_)
          · exact absurd (by simp [own_h, q1, q2, q3]) qz
          · skip
            refine W.iconst X26 hx 133 (1 : Int32) (hb hby at_132) rfl rfl ?_
            refine W.goto X26 hx 137 (hb hby at_133) (by decide) (by decide) ?_
            refine W.nret X26 hx hlk (t := .boolean) hret (by simp) (hb hby at_137) (by decide) (by decide) ?_
            exact ⟨rfl, (Fr.app (Fr.app (Fr.app (Fr.app (Fr.app (Fr.app (Fr.app (Fr.app (Fr.app (Fr.app (Fr.app (Fr.app (Fr.app (Fr.nil _) (fr1 ge_a1)) (fr1 ge_a1)) (fr1 ge_a1)) (fr1 ge_a1)) (fr1 ge_a1)) (fr1 ge_a1)) (fr1 ge_a14)) (fr1 ge_a14)) (fr1 ge_a14)) (fr1 ge_a14)) (fr1 ge_a14)) (fr1 ge_a14)) (Fr.nil _))⟩
    · skip
      refine W.iconst X20 hx 94 (1 : Int32) (hb hby at_93) rfl rfl ?_
      refine W.goto X20 hx 98 (hb hby at_94) (by decide) (by decide) ?_
      refine W.istore X20 hx 100 #[.val (.int p1), .val (.int p2), .val (.ref a1), .val (.ref a14), .val (.int kk), .val (.int (1 : Int32)), .unset] (hb hby at_98) rfl rfl ?_
      refine W.aloadN X20 hx 101 (hb hby at_100) rfl rfl rfl ?_
      refine W.iload X20 hx 103 (hb hby at_101) rfl rfl ?_
      have q3 : ¬ (0 : Int32) < p2 := by rw [q2]; decide
      have hcase : i = 0 ∨ i = 1 ∨ i = 2 ∨ i = 3 ∨ i = 4 ∨ i = 5 := by omega
      rcases hcase with rfl | rfl | rfl | rfl | rfl | rfl
      · skip
        refine W.iaload X20 hx hZ 104 0 (.int (1 : Int32)) e20 B ei (by decide) rfl (hb hby at_103) rfl ?_
        refine W.iload X20 hx 106 (hb hby at_104) rfl rfl ?_
        refine W.ishr X20 hx 107 (hb hby at_106) rfl ?_
        refine W.iconst X20 hx 108 (1 : Int32) (hb hby at_107) rfl rfl ?_
        refine W.iand X20 hx 109 (hb hby at_108) rfl ?_
        refine W.ifEq X20 hx 116 112 (hb hby at_109) (by decide) (by decide) rfl (fun qm => ?_) (fun qm => ?_)
        · skip
          refine W.iconst X20 hx 117 (0 : Int32) (hb hby at_116) rfl rfl ?_
          refine W.istore X20 hx 119 #[.val (.int p1), .val (.int p2), .val (.ref a1), .val (.ref a14), .val (.int kk), .val (.int (1 : Int32)), .val (.int (0 : Int32))] (hb hby at_117) rfl rfl ?_
          refine W.aloadN X20 hx 120 (hb hby at_119) rfl rfl rfl ?_
          refine W.iload X20 hx 122 (hb hby at_120) rfl rfl ?_
          refine W.aaload X20 hx hZ 123 0 (.ref x0) e20 A rfl ei (by decide) rfl (hb hby at_122) rfl ?_
          refine W.iloadN X20 hx 124 (hb hby at_123) rfl rfl ?_
          refine W.callV X20 hx hZ 127 0 x0 [(.int p2)] hown (hw _ (List.mem_of_getElem? (i := 18) rfl)) (hw _ (List.mem_of_getElem? (i := 19) rfl)) (hw _ (List.mem_of_getElem? (i := 21) rfl)) (hw _ (List.mem_of_getElem? (i := 20) rfl)) (hw _ (List.mem_of_getElem? (i := 3) rfl)) (hw _ (List.mem_of_getElem? (i := 22) rfl)) (by decide) pd_1 rfl e20 (E_x0.ext EX) (rmh0 l Z a0 hw x0 p2 h20 (E_x0.ext EX) (F_x0.ext EX)) (hb hby at_124) (by rw [hml]; rfl) rfl rfl (by decide) (by decide) (by decide) (by decide) rfl ?_
          rintro v27 T27 L27 X27 ⟨rfl, e27, rfl⟩
          refine W.iload X27 hx 129 (hb hby at_127) rfl rfl ?_
          refine W.icmpNe X27 hx 136 132 (hb hby at_129) (by decide) (by decide) rfl (fun qz => ?_) (fun qz => ?_)
          · exact absurd (by simp [own_h, q1, q2]) qz
          · skip
            refine W.iconst X27 hx 133 (1 : Int32) (hb hby at_132) rfl rfl ?_
            refine W.goto X27 hx 137 (hb hby at_133) (by decide) (by decide) ?_
            refine W.nret X27 hx hlk (t := .boolean) hret (by simp) (hb hby at_137) (by decide) (by decide) ?_
            exact ⟨rfl, (Fr.app (Fr.app (Fr.app (Fr.app (Fr.app (Fr.app (Fr.app (Fr.app (Fr.app (Fr.app (Fr.app (Fr.app (Fr.app (Fr.nil _) (fr1 ge_a1)) (fr1 ge_a1)) (fr1 ge_a1)) (fr1 ge_a1)) (fr1 ge_a1)) (fr1 ge_a1)) (fr1 ge_a14)) (fr1 ge_a14)) (fr1 ge_a14)) (fr1 ge_a14)) (fr1 ge_a14)) (fr1 ge_a14)) (Fr.nil _))⟩
        · exact absurd (by decide) qm
      · skip
        refine W.iaload X20 hx hZ 104 1 (.int (3 : Int32)) e20 B ei (by decide) rfl (hb hby at_103) rfl ?_
        refine W.iload X20 hx 106 (hb hby at_104) rfl rfl ?_
        refine W.ishr X20 hx 107 (hb hby at_106) rfl ?_
        refine W.iconst X20 hx 108 (1 : Int32) (hb hby at_107) rfl rfl ?_
        refine W.iand X20 hx 109 (hb hby at_108) rfl ?_
        refine W.ifEq X20 hx 116 112 (hb hby at_109) (by decide) (by decide) rfl (fun qm => ?_) (fun qm => ?_)
        · exact absurd qm (by decide)
        · skip
          refine W.iconst X20 hx 113 (1 : Int32) (hb hby at_112) rfl rfl ?_
          refine W.goto X20 hx 117 (hb hby at_113) (by decide) (by decide) ?_
          refine W.istore X20 hx 119 #[.val (.int p1), .val (.int p2), .val (.ref a1), .val (.ref a14), .val (.int kk), .val (.int (1 : Int32)), .val (.int (1 : Int32))] (hb hby at_117) rfl rfl ?_
          refine W.aloadN X20 hx 120 (hb hby at_119) rfl rfl rfl ?_
          refine W.iload X20 hx 122 (hb hby at_120) rfl rfl ?_
          refine W.aaload X20 hx hZ 123 1 (.ref x1) e20 A rfl ei (by decide) rfl (hb hby at_122) rfl ?_
          refine W.iloadN X20 hx 124 (hb hby at_123) rfl rfl ?_
          refine W.callV X20 hx hZ 127 0 x1 [(.int p2)] hown (hw _ (List.mem_of_getElem? (i := 18) rfl)) (hw _ (List.mem_of_getElem? (i := 19) rfl)) (hw _ (List.mem_of_getElem? (i := 21) rfl)) (hw _ (List.mem_of_getElem? (i := 20) rfl)) (hw _ (List.mem_of_getElem? (i := 3) rfl)) (hw _ (List.mem_of_getElem? (i := 22) rfl)) (by decide) pd_1 rfl e20 (E_x1.ext EX) (rmh1 l Z a0 hw x1 p2 h20 (E_x1.ext EX) (F_x1.ext EX)) (hb hby at_124) (by rw [hml]; rfl) rfl rfl (by decide) (by decide) (by decide) (by decide) rfl ?_
          rintro v28 T28 L28 X28 ⟨rfl, e28, rfl⟩
          refine W.iload X28 hx 129 (hb hby at_127) rfl rfl ?_
          refine W.icmpNe X28 hx 136 132 (hb hby at_129) (by decide) (by decide) rfl (fun qz => ?_) (fun qz => ?_)
          · exact absurd (by simp [own_h, q1, q2]) qz
          · skip
            refine W.iconst X28 hx 133 (1 : Int32) (hb hby at_132) rfl rfl ?_
            refine W.goto X28 hx 137 (hb hby at_133) (by decide) (by decide) ?_
            refine W.nret X28 hx hlk (t := .boolean) hret (by simp) (hb hby at_137) (by decide) (by decide) ?_
            exact ⟨rfl, (Fr.app (Fr.app (Fr.app (Fr.app (Fr.app (Fr.app (Fr.app (Fr.app (Fr.app (Fr.app (Fr.app (Fr.app (Fr.app (Fr.nil _) (fr1 ge_a1)) (fr1 ge_a1)) (fr1 ge_a1)) (fr1 ge_a1)) (fr1 ge_a1)) (fr1 ge_a1)) (fr1 ge_a14)) (fr1 ge_a14)) (fr1 ge_a14)) (fr1 ge_a14)) (fr1 ge_a14)) (fr1 ge_a14)) (Fr.nil _))⟩
      · skip
        refine W.iaload X20 hx hZ 104 2 (.int (4 : Int32)) e20 B ei (by decide) rfl (hb hby at_103) rfl ?_
        refine W.iload X20 hx 106 (hb hby at_104) rfl rfl ?_
        refine W.ishr X20 hx 107 (hb hby at_106) rfl ?_
        refine W.iconst X20 hx 108 (1 : Int32) (hb hby at_107) rfl rfl ?_
        refine W.iand X20 hx 109 (hb hby at_108) rfl ?_
        refine W.ifEq X20 hx 116 112 (hb hby at_109) (by decide) (by decide) rfl (fun qm => ?_) (fun qm => ?_)
        · skip
          refine W.iconst X20 hx 117 (0 : Int32) (hb hby at_116) rfl rfl ?_
          refine W.istore X20 hx 119 #[.val (.int p1), .val (.int p2), .val (.ref a1), .val (.ref a14), .val (.int kk), .val (.int (1 : Int32)), .val (.int (0 : Int32))] (hb hby at_117) rfl rfl ?_
          refine W.aloadN X20 hx 120 (hb hby at_119) rfl rfl rfl ?_
          refine W.iload X20 hx 122 (hb hby at_120) rfl rfl ?_
          refine W.aaload X20 hx hZ 123 2 (.ref x2) e20 A rfl ei (by decide) rfl (hb hby at_122) rfl ?_
          refine W.iloadN X20 hx 124 (hb hby at_123) rfl rfl ?_
          refine W.callV X20 hx hZ 127 0 x2 [(.int p2)] hown (hw _ (List.mem_of_getElem? (i := 18) rfl)) (hw _ (List.mem_of_getElem? (i := 19) rfl)) (hw _ (List.mem_of_getElem? (i := 21) rfl)) (hw _ (List.mem_of_getElem? (i := 20) rfl)) (hw _ (List.mem_of_getElem? (i := 3) rfl)) (hw _ (List.mem_of_getElem? (i := 22) rfl)) (by decide) pd_1 rfl e20 (E_x2.ext EX) (rmh2 l Z a0 hw x2 p2 h20 (E_x2.ext EX) (F_x2.ext EX)) (hb hby at_124) (by rw [hml]; rfl) rfl rfl (by decide) (by decide) (by decide) (by decide) rfl ?_
          rintro v29 T29 L29 X29 ⟨rfl, e29, rfl⟩
          refine W.iload X29 hx 129 (hb hby at_127) rfl rfl ?_
          refine W.icmpNe X29 hx 136 132 (hb hby at_129) (by decide) (by decide) rfl (fun qz => ?_) (fun qz => ?_)
          · exact absurd (by simp [own_h, q1, q2]) qz
          · skip
            refine W.iconst X29 hx 133 (1 : Int32) (hb hby at_132) rfl rfl ?_
            refine W.goto X29 hx 137 (hb hby at_133) (by decide) (by decide) ?_
            refine W.nret X29 hx hlk (t := .boolean) hret (by simp) (hb hby at_137) (by decide) (by decide) ?_
            exact ⟨rfl, (Fr.app (Fr.app (Fr.app (Fr.app (Fr.app (Fr.app (Fr.app (Fr.app (Fr.app (Fr.app (Fr.app (Fr.app (Fr.app (Fr.nil _) (fr1 ge_a1)) (fr1 ge_a1)) (fr1 ge_a1)) (fr1 ge_a1)) (fr1 ge_a1)) (fr1 ge_a1)) (fr1 ge_a14)) (fr1 ge_a14)) (fr1 ge_a14)) (fr1 ge_a14)) (fr1 ge_a14)) (fr1 ge_a14)) (Fr.nil _))⟩
        · exact absurd (by decide) qm
      · skip
        refine W.iaload X20 hx hZ 104 3 (.int (6 : Int32)) e20 B ei (by decide) rfl (hb hby at_103) rfl ?_
        refine W.iload X20 hx 106 (hb hby at_104) rfl rfl ?_
        refine W.ishr X20 hx 107 (hb hby at_106) rfl ?_
        refine W.iconst X20 hx 108 (1 : Int32) (hb hby at_107) rfl rfl ?_
        refine W.iand X20 hx 109 (hb hby at_108) rfl ?_
        refine W.ifEq X20 hx 116 112 (hb hby at_109) (by decide) (by decide) rfl (fun qm => ?_) (fun qm => ?_)
        · exact absurd qm (by decide)
        · skip
          refine W.iconst X20 hx 113 (1 : Int32) (hb hby at_112) rfl rfl ?_
          refine W.goto X20 hx 117 (hb hby at_113) (by decide) (by decide) ?_
          refine W.istore X20 hx 119 #[.val (.int p1), .val (.int p2), .val (.ref a1), .val (.ref a14), .val (.int kk), .val (.int (1 : Int32)), .val (.int (1 : Int32))] (hb hby at_117) rfl rfl ?_
          refine W.aloadN X20 hx 120 (hb hby at_119) rfl rfl rfl ?_
          refine W.iload X20 hx 122 (hb hby at_120) rfl rfl ?_
          refine W.aaload X20 hx hZ 123 3 (.ref x3) e20 A rfl ei (by decide) rfl (hb hby at_122) rfl ?_
          refine W.iloadN X20 hx 124 (hb hby at_123) rfl rfl ?_
          refine W.callV X20 hx hZ 127 0 x3 [(.int p2)] hown (hw _ (List.mem_of_getElem? (i := 18) rfl)) (hw _ (List.mem_of_getElem? (i := 19) rfl)) (hw _ (List.mem_of_getElem? (i := 21) rfl)) (hw _ (List.mem_of_getElem? (i := 20) rfl)) (hw _ (List.mem_of_getElem? (i := 3) rfl)) (hw _ (List.mem_of_getElem? (i := 22) rfl)) (by decide) pd_1 rfl e20 (E_x3.ext EX) (rmh3 l Z a0 hw x3 p2 h20 (E_x3.ext EX) (F_x3.ext EX)) (hb hby at_124) (by rw [hml]; rfl) rfl rfl (by decide) (by decide) (by decide) (by decide) rfl ?_
          rintro v30 T30 L30 X30 ⟨rfl, e30, rfl⟩
          refine W.iload X30 hx 129 (hb hby at_127) rfl rfl ?_
          refine W.icmpNe X30 hx 136 132 (hb hby at_129) (by decide) (by decide) rfl (fun qz => ?_) (fun qz => ?_)
          · exact absurd (by simp [own_h, q1, q2]) qz
          · skip
            refine W.iconst X30 hx 133 (1 : Int32) (hb hby at_132) rfl rfl ?_
            refine W.goto X30 hx 137 (hb hby at_133) (by decide) (by decide) ?_
            refine W.nret X30 hx hlk (t := .boolean) hret (by simp) (hb hby at_137) (by decide) (by decide) ?_
            exact ⟨rfl, (Fr.app (Fr.app (Fr.app (Fr.app (Fr.app (Fr.app (Fr.app (Fr.app (Fr.app (Fr.app (Fr.app (Fr.app (Fr.app (Fr.nil _) (fr1 ge_a1)) (fr1 ge_a1)) (fr1 ge_a1)) (fr1 ge_a1)) (fr1 ge_a1)) (fr1 ge_a1)) (fr1 ge_a14)) (fr1 ge_a14)) (fr1 ge_a14)) (fr1 ge_a14)) (fr1 ge_a14)) (fr1 ge_a14)) (Fr.nil _))⟩
      · skip
        refine W.iaload X20 hx hZ 104 4 (.int (2 : Int32)) e20 B ei (by decide) rfl (hb hby at_103) rfl ?_
        refine W.iload X20 hx 106 (hb hby at_104) rfl rfl ?_
        refine W.ishr X20 hx 107 (hb hby at_106) rfl ?_
        refine W.iconst X20 hx 108 (1 : Int32) (hb hby at_107) rfl rfl ?_
        refine W.iand X20 hx 109 (hb hby at_108) rfl ?_
        refine W.ifEq X20 hx 116 112 (hb hby at_109) (by decide) (by decide) rfl (fun qm => ?_) (fun qm => ?_)
        · exact absurd qm (by decide)
        · skip
          refine W.iconst X20 hx 113 (1 : Int32) (hb hby at_112) rfl rfl ?_
          refine W.goto X20 hx 117 (hb hby at_113) (by decide) (by decide) ?_
          refine W.istore X20 hx 119 #[.val (.int p1), .val (.int p2), .val (.ref a1), .val (.ref a14), .val (.int kk), .val (.int (1 : Int32)), .val (.int (1 : Int32))] (hb hby at_117) rfl rfl ?_
          refine W.aloadN X20 hx 120 (hb hby at_119) rfl rfl rfl ?_
          refine W.iload X20 hx 122 (hb hby at_120) rfl rfl ?_
          refine W.aaload X20 hx hZ 123 4 (.ref x4) e20 A rfl ei (by decide) rfl (hb hby at_122) rfl ?_
          refine W.iloadN X20 hx 124 (hb hby at_123) rfl rfl ?_
          refine W.callV X20 hx hZ 127 0 x4 [(.int p2)] hown (hw _ (List.mem_of_getElem? (i := 18) rfl)) (hw _ (List.mem_of_getElem? (i := 19) rfl)) (hw _ (List.mem_of_getElem? (i := 21) rfl)) (hw _ (List.mem_of_getElem? (i := 20) rfl)) (hw _ (List.mem_of_getElem? (i := 3) rfl)) (hw _ (List.mem_of_getElem? (i := 22) rfl)) (by decide) pd_1 rfl e20 (E_x4.ext EX) (rmh4 l Z a0 hw x4 p2 h20 (E_x4.ext EX) (F_x4.ext EX)) (hb hby at_124) (by rw [hml]; rfl) rfl rfl (by decide) (by decide) (by decide) (by decide) rfl ?_
          rintro v31 T31 L31 X31 ⟨rfl, e31, rfl⟩
          refine W.iload X31 hx 129 (hb hby at_127) rfl rfl ?_
          refine W.icmpNe X31 hx 136 132 (hb hby at_129) (by decide) (by decide) rfl (fun qz => ?_) (fun qz => ?_)
          · exact absurd (by simp [own_h, q1, q2]) qz
          · skip
            refine W.iconst X31 hx 133 (1 : Int32) (hb hby at_132) rfl rfl ?_
            refine W.goto X31 hx 137 (hb hby at_133) (by decide) (by decide) ?_
            refine W.nret X31 hx hlk (t := .boolean) hret (by simp) (hb hby at_137) (by decide) (by decide) ?_
            exact ⟨rfl, (Fr.app (Fr.app (Fr.app (Fr.app (Fr.app (Fr.app (Fr.app (Fr.app (Fr.app (Fr.app (Fr.app (Fr.app (Fr.app (Fr.nil _) (fr1 ge_a1)) (fr1 ge_a1)) (fr1 ge_a1)) (fr1 ge_a1)) (fr1 ge_a1)) (fr1 ge_a1)) (fr1 ge_a14)) (fr1 ge_a14)) (fr1 ge_a14)) (fr1 ge_a14)) (fr1 ge_a14)) (fr1 ge_a14)) (Fr.nil _))⟩
      · skip
        refine W.iaload X20 hx hZ 104 5 (.int (5 : Int32)) e20 B ei (by decide) rfl (hb hby at_103) rfl ?_
        refine W.iload X20 hx 106 (hb hby at_104) rfl rfl ?_
        refine W.ishr X20 hx 107 (hb hby at_106) rfl ?_
        refine W.iconst X20 hx 108 (1 : Int32) (hb hby at_107) rfl rfl ?_
        refine W.iand X20 hx 109 (hb hby at_108) rfl ?_
        refine W.ifEq X20 hx 116 112 (hb hby at_109) (by decide) (by decide) rfl (fun qm => ?_) (fun qm => ?_)
        · skip
          refine W.iconst X20 hx 117 (0 : Int32) (hb hby at_116) rfl rfl ?_
          refine W.istore X20 hx 119 #[.val (.int p1), .val (.int p2), .val (.ref a1), .val (.ref a14), .val (.int kk), .val (.int (1 : Int32)), .val (.int (0 : Int32))] (hb hby at_117) rfl rfl ?_
          refine W.aloadN X20 hx 120 (hb hby at_119) rfl rfl rfl ?_
          refine W.iload X20 hx 122 (hb hby at_120) rfl rfl ?_
          refine W.aaload X20 hx hZ 123 5 (.ref x5) e20 A rfl ei (by decide) rfl (hb hby at_122) rfl ?_
          refine W.iloadN X20 hx 124 (hb hby at_123) rfl rfl ?_
          refine W.callV X20 hx hZ 127 0 x5 [(.int p2)] hown (hw _ (List.mem_of_getElem? (i := 18) rfl)) (hw _ (List.mem_of_getElem? (i := 19) rfl)) (hw _ (List.mem_of_getElem? (i := 21) rfl)) (hw _ (List.mem_of_getElem? (i := 20) rfl)) (hw _ (List.mem_of_getElem? (i := 3) rfl)) (hw _ (List.mem_of_getElem? (i := 22) rfl)) (by decide) pd_1 rfl e20 (E_x5.ext EX) (rmh5 l Z a0 hw x5 p2 h20 (E_x5.ext EX) (F_x5.ext EX)) (hb hby at_124) (by rw [hml]; rfl) rfl rfl (by decide) (by decide) (by decide) (by decide) rfl ?_
          rintro v32 T32 L32 X32 ⟨rfl, e32, rfl⟩
          refine W.iload X32 hx 129 (hb hby at_127) rfl rfl ?_
          refine W.icmpNe X32 hx 136 132 (hb hby at_129) (by decide) (by decide) rfl (fun qz => ?_) (fun qz => ?_)
          · exact absurd (by simp [own_h, q1, q2]) qz
          · skip
            refine W.iconst X32 hx 133 (1 : Int32) (hb hby at_132) rfl rfl ?_
            refine W.goto X32 hx 137 (hb hby at_133) (by decide) (by decide) ?_
            refine W.nret X32 hx hlk (t := .boolean) hret (by simp) (hb hby at_137) (by decide) (by decide) ?_
            exact ⟨rfl, (Fr.app (Fr.app (Fr.app (Fr.app (Fr.app (Fr.app (Fr.app (Fr.app (Fr.app (Fr.app (Fr.app (Fr.app (Fr.app (Fr.nil _) (fr1 ge_a1)) (fr1 ge_a1)) (fr1 ge_a1)) (fr1 ge_a1)) (fr1 ge_a1)) (fr1 ge_a1)) (fr1 ge_a14)) (fr1 ge_a14)) (fr1 ge_a14)) (fr1 ge_a14)) (fr1 ge_a14)) (fr1 ge_a14)) (Fr.nil _))⟩
        · exact absurd (by decide) qm
  · skip
    refine W.iconst X20 hx 86 (0 : Int32) (hb hby at_85) rfl rfl ?_
    refine W.goto X20 hx 98 (hb hby at_86) (by decide) (by decide) ?_
    refine W.istore X20 hx 100 #[.val (.int p1), .val (.int p2), .val (.ref a1), .val (.ref a14), .val (.int kk), .val (.int (0 : Int32)), .unset] (hb hby at_98) rfl rfl ?_
    refine W.aloadN X20 hx 101 (hb hby at_100) rfl rfl rfl ?_
    refine W.iload X20 hx 103 (hb hby at_101) rfl rfl ?_
    have q3 : ¬ (0 : Int32) < p2 := by
      have q1' := q1
      rw [Int32.lt_iff_toInt_lt] at q1' ⊢
      have e0 : (0 : Int32).toInt = 0 := rfl
      omega
    have q4 : ¬ p2 = 0 := fun z => by rw [z] at q1; exact absurd q1 (by decide)
    have hcase : i = 0 ∨ i = 1 ∨ i = 2 ∨ i = 3 ∨ i = 4 ∨ i = 5 := by omega
    rcases hcase with rfl | rfl | rfl | rfl | rfl | rfl
    · skip
      refine W.iaload X20 hx hZ 104 0 (.int (1 : Int32)) e20 B ei (by decide) rfl (hb hby at_103) rfl ?_
      refine W.iload X20 hx 106 (hb hby at_104) rfl rfl ?_
      refine W.ishr X20 hx 107 (hb hby at_106) rfl ?_
      refine W.iconst X20 hx 108 (1 : Int32) (hb hby at_107) rfl rfl ?_
      refine W.iand X20 hx 109 (hb hby at_108) rfl ?_
      refine W.ifEq X20 hx 116 112 (hb hby at_109) (by decide) (by decide) rfl (fun qm => ?_) (fun qm => ?_)
      · exact absurd qm (by decide)
      · skip
        refine W.iconst X20 hx 113 (1 : Int32) (hb hby at_112) rfl rfl ?_
        refine W.goto X20 hx 117 (hb hby at_113) (by decide) (by decide) ?_
        refine W.istore X20 hx 119 #[.val (.int p1), .val (.int p2), .val (.ref a1), .val (.ref a14), .val (.int kk), .val (.int (0 : Int32)), .val (.int (1 : Int32))] (hb hby at_117) rfl rfl ?_
        refine W.aloadN X20 hx 120 (hb hby at_119) rfl rfl rfl ?_
        refine W.iload X20 hx 122 (hb hby at_120) rfl rfl ?_
        refine W.aaload X20 hx hZ 123 0 (.ref x0) e20 A rfl ei (by decide) rfl (hb hby at_122) rfl ?_
        refine W.iloadN X20 hx 124 (hb hby at_123) rfl rfl ?_
        refine W.callV X20 hx hZ 127 0 x0 [(.int p2)] hown (hw _ (List.mem_of_getElem? (i := 18) rfl)) (hw _ (List.mem_of_getElem? (i := 19) rfl)) (hw _ (List.mem_of_getElem? (i := 21) rfl)) (hw _ (List.mem_of_getElem? (i := 20) rfl)) (hw _ (List.mem_of_getElem? (i := 3) rfl)) (hw _ (List.mem_of_getElem? (i := 22) rfl)) (by decide) pd_1 rfl e20 (E_x0.ext EX) (rmh0 l Z a0 hw x0 p2 h20 (E_x0.ext EX) (F_x0.ext EX)) (hb hby at_124) (by rw [hml]; rfl) rfl rfl (by decide) (by decide) (by decide) (by decide) rfl ?_
        rintro v33 T33 L33 X33 ⟨rfl, e33, rfl⟩
        refine W.iload X33 hx 129 (hb hby at_127) rfl rfl ?_
        refine W.icmpNe X33 hx 136 132 (hb hby at_129) (by decide) (by decide) rfl (fun qz => ?_) (fun qz => ?_)
        · exact absurd (by simp [own_h, q1, q3, q4]) qz
        · skip
          refine W.iconst X33 hx 133 (1 : Int32) (hb hby at_132) rfl rfl ?_
          refine W.goto X33 hx 137 (hb hby at_133) (by decide) (by decide) ?_
          refine W.nret X33 hx hlk (t := .boolean) hret (by simp) (hb hby at_137) (by decide) (by decide) ?_
          exact ⟨rfl, (Fr.app (Fr.app (Fr.app (Fr.app (Fr.app (Fr.app (Fr.app (Fr.app (Fr.app (Fr.app (Fr.app (Fr.app (Fr.app (Fr.nil _) (fr1 ge_a1)) (fr1 ge_a1)) (fr1 ge_a1)) (fr1 ge_a1)) (fr1 ge_a1)) (fr1 ge_a1)) (fr1 ge_a14)) (fr1 ge_a14)) (fr1 ge_a14)) (fr1 ge_a14)) (fr1 ge_a14)) (fr1 ge_a14)) (Fr.nil _))⟩
    · skip
      refine W.iaload X20 hx hZ 104 1 (.int (3 : Int32)) e20 B ei (by decide) rfl (hb hby at_103) rfl ?_
      refine W.iload X20 hx 106 (hb hby at_104) rfl rfl ?_
      refine W.ishr X20 hx 107 (hb hby at_106) rfl ?_
      refine W.iconst X20 hx 108 (1 : Int32) (hb hby at_107) rfl rfl ?_
      refine W.iand X20 hx 109 (hb hby at_108) rfl ?_
      refine W.ifEq X20 hx 116 112 (hb hby at_109) (by decide) (by decide) rfl (fun qm => ?_) (fun qm => ?_)
      · exact absurd qm (by decide)
      · skip
        refine W.iconst X20 hx 113 (1 : Int32) (hb hby at_112) rfl rfl ?_
        refine W.goto X20 hx 117 (hb hby at_113) (by decide) (by decide) ?_
        refine W.istore X20 hx 119 #[.val (.int p1), .val (.int p2), .val (.ref a1), .val (.ref a14), .val (.int kk), .val (.int (0 : Int32)), .val (.int (1 : Int32))] (hb hby at_117) rfl rfl ?_
        refine W.aloadN X20 hx 120 (hb hby at_119) rfl rfl rfl ?_
        refine W.iload X20 hx 122 (hb hby at_120) rfl rfl ?_
        refine W.aaload X20 hx hZ 123 1 (.ref x1) e20 A rfl ei (by decide) rfl (hb hby at_122) rfl ?_
        refine W.iloadN X20 hx 124 (hb hby at_123) rfl rfl ?_
        refine W.callV X20 hx hZ 127 0 x1 [(.int p2)] hown (hw _ (List.mem_of_getElem? (i := 18) rfl)) (hw _ (List.mem_of_getElem? (i := 19) rfl)) (hw _ (List.mem_of_getElem? (i := 21) rfl)) (hw _ (List.mem_of_getElem? (i := 20) rfl)) (hw _ (List.mem_of_getElem? (i := 3) rfl)) (hw _ (List.mem_of_getElem? (i := 22) rfl)) (by decide) pd_1 rfl e20 (E_x1.ext EX) (rmh1 l Z a0 hw x1 p2 h20 (E_x1.ext EX) (F_x1.ext EX)) (hb hby at_124) (by rw [hml]; rfl) rfl rfl (by decide) (by decide) (by decide) (by decide) rfl ?_
        rintro v34 T34 L34 X34 ⟨rfl, e34, rfl⟩
        refine W.iload X34 hx 129 (hb hby at_127) rfl rfl ?_
        refine W.icmpNe X34 hx 136 132 (hb hby at_129) (by decide) (by decide) rfl (fun qz => ?_) (fun qz => ?_)
        · exact absurd (by simp [own_h, q1, q3, q4]) qz
        · skip
          refine W.iconst X34 hx 133 (1 : Int32) (hb hby at_132) rfl rfl ?_
          refine W.goto X34 hx 137 (hb hby at_133) (by decide) (by decide) ?_
          refine W.nret X34 hx hlk (t := .boolean) hret (by simp) (hb hby at_137) (by decide) (by decide) ?_
          exact ⟨rfl, (Fr.app (Fr.app (Fr.app (Fr.app (Fr.app (Fr.app (Fr.app (Fr.app (Fr.app (Fr.app (Fr.app (Fr.app (Fr.app (Fr.nil _) (fr1 ge_a1)) (fr1 ge_a1)) (fr1 ge_a1)) (fr1 ge_a1)) (fr1 ge_a1)) (fr1 ge_a1)) (fr1 ge_a14)) (fr1 ge_a14)) (fr1 ge_a14)) (fr1 ge_a14)) (fr1 ge_a14)) (fr1 ge_a14)) (Fr.nil _))⟩
    · skip
      refine W.iaload X20 hx hZ 104 2 (.int (4 : Int32)) e20 B ei (by decide) rfl (hb hby at_103) rfl ?_
      refine W.iload X20 hx 106 (hb hby at_104) rfl rfl ?_
      refine W.ishr X20 hx 107 (hb hby at_106) rfl ?_
      refine W.iconst X20 hx 108 (1 : Int32) (hb hby at_107) rfl rfl ?_
      refine W.iand X20 hx 109 (hb hby at_108) rfl ?_
      refine W.ifEq X20 hx 116 112 (hb hby at_109) (by decide) (by decide) rfl (fun qm => ?_) (fun qm => ?_)
      · skip
        refine W.iconst X20 hx 117 (0 : Int32) (hb hby at_116) rfl rfl ?_
        refine W.istore X20 hx 119 #[.val (.int p1), .val (.int p2), .val (.ref a1), .val (.ref a14), .val (.int kk), .val (.int (0 : Int32)), .val (.int (0 : Int32))] (hb hby at_117) rfl rfl ?_
        refine W.aloadN X20 hx 120 (hb hby at_119) rfl rfl rfl ?_
        refine W.iload X20 hx 122 (hb hby at_120) rfl rfl ?_
        refine W.aaload X20 hx hZ 123 2 (.ref x2) e20 A rfl ei (by decide) rfl (hb hby at_122) rfl ?_
        refine W.iloadN X20 hx 124 (hb hby at_123) rfl rfl ?_
        refine W.callV X20 hx hZ 127 0 x2 [(.int p2)] hown (hw _ (List.mem_of_getElem? (i := 18) rfl)) (hw _ (List.mem_of_getElem? (i := 19) rfl)) (hw _ (List.mem_of_getElem? (i := 21) rfl)) (hw _ (List.mem_of_getElem? (i := 20) rfl)) (hw _ (List.mem_of_getElem? (i := 3) rfl)) (hw _ (List.mem_of_getElem? (i := 22) rfl)) (by decide) pd_1 rfl e20 (E_x2.ext EX) (rmh2 l Z a0 hw x2 p2 h20 (E_x2.ext EX) (F_x2.ext EX)) (hb hby at_124) (by rw [hml]; rfl) rfl rfl (by decide) (by decide) (by decide) (by decide) rfl ?_
        rintro v35 T35 L35 X35 ⟨rfl, e35, rfl⟩
        refine W.iload X35 hx 129 (hb hby at_127) rfl rfl ?_
        refine W.icmpNe X35 hx 136 132 (hb hby at_129) (by decide) (by decide) rfl (fun qz => ?_) (fun qz => ?_)
        · exact absurd (by simp [own_h, q1, q3, q4]) qz
        · skip
          refine W.iconst X35 hx 133 (1 : Int32) (hb hby at_132) rfl rfl ?_
          refine W.goto X35 hx 137 (hb hby at_133) (by decide) (by decide) ?_
          refine W.nret X35 hx hlk (t := .boolean) hret (by simp) (hb hby at_137) (by decide) (by decide) ?_
          exact ⟨rfl, (Fr.app (Fr.app (Fr.app (Fr.app (Fr.app (Fr.app (Fr.app (Fr.app (Fr.app (Fr.app (Fr.app (Fr.app (Fr.app (Fr.nil _) (fr1 ge_a1)) (fr1 ge_a1)) (fr1 ge_a1)) (fr1 ge_a1)) (fr1 ge_a1)) (fr1 ge_a1)) (fr1 ge_a14)) (fr1 ge_a14)) (fr1 ge_a14)) (fr1 ge_a14)) (fr1 ge_a14)) (fr1 ge_a14)) (Fr.nil _))⟩
      · exact absurd (by decide) qm
    · skip
      refine W.iaload X20 hx hZ 104 3 (.int (6 : Int32)) e20 B ei (by decide) rfl (hb hby at_103) rfl ?_
      refine W.iload X20 hx 106 (hb hby at_104) rfl rfl ?_
      refine W.ishr X20 hx 107 (hb hby at_106) rfl ?_
      refine W.iconst X20 hx 108 (1 : Int32) (hb hby at_107) rfl rfl ?_
      refine W.iand X20 hx 109 (hb hby at_108) rfl ?_
      refine W.ifEq X20 hx 116 112 (hb hby at_109) (by decide) (by decide) rfl (fun qm => ?_) (fun qm => ?_)
      · skip
        refine W.iconst X20 hx 117 (0 : Int32) (hb hby at_116) rfl rfl ?_
        refine W.istore X20 hx 119 #[.val (.int p1), .val (.int p2), .val (.ref a1), .val (.ref a14), .val (.int kk), .val (.int (0 : Int32)), .val (.int (0 : Int32))] (hb hby at_117) rfl rfl ?_
        refine W.aloadN X20 hx 120 (hb hby at_119) rfl rfl rfl ?_
        refine W.iload X20 hx 122 (hb hby at_120) rfl rfl ?_
        refine W.aaload X20 hx hZ 123 3 (.ref x3) e20 A rfl ei (by decide) rfl (hb hby at_122) rfl ?_
        refine W.iloadN X20 hx 124 (hb hby at_123) rfl rfl ?_
        refine W.callV X20 hx hZ 127 0 x3 [(.int p2)] hown (hw _ (List.mem_of_getElem? (i := 18) rfl)) (hw _ (List.mem_of_getElem? (i := 19) rfl)) (hw _ (List.mem_of_getElem? (i := 21) rfl)) (hw _ (List.mem_of_getElem? (i := 20) rfl)) (hw _ (List.mem_of_getElem? (i := 3) rfl)) (hw _ (List.mem_of_getElem? (i := 22) rfl)) (by decide) pd_1 rfl e20 (E_x3.ext EX) (rmh3 l Z a0 hw x3 p2 h20 (E_x3.ext EX) (F_x3.ext EX)) (hb hby at_124) (by rw [hml]; rfl) rfl rfl (by decide) (by decide) (by decide) (by decide) rfl ?_
        rintro v36 T36 L36 X36 ⟨rfl, e36, rfl⟩
        refine W.iload X36 hx 129 (hb hby at_127) rfl rfl ?_
        refine W.icmpNe X36 hx 136 132 (hb hby at_129) (by decide) (by decide) rfl (fun qz => ?_) (fun qz => ?_)
        · exact absurd (by simp [own_h, q1, q3, q4]) qz
        · skip
          refine W.iconst X36 hx 133 (1 : Int32) (hb hby at_132) rfl rfl ?_
          refine W.goto X36 hx 137 (hb hby at_133) (by decide) (by decide) ?_
          refine W.nret X36 hx hlk (t := .boolean) hret (by simp) (hb hby at_137) (by decide) (by decide) ?_
          exact ⟨rfl, (Fr.app (Fr.app (Fr.app (Fr.app (Fr.app (Fr.app (Fr.app (Fr.app (Fr.app (Fr.app (Fr.app (Fr.app (Fr.app (Fr.nil _) (fr1 ge_a1)) (fr1 ge_a1)) (fr1 ge_a1)) (fr1 ge_a1)) (fr1 ge_a1)) (fr1 ge_a1)) (fr1 ge_a14)) (fr1 ge_a14)) (fr1 ge_a14)) (fr1 ge_a14)) (fr1 ge_a14)) (fr1 ge_a14)) (Fr.nil _))⟩
      · exact absurd (by decide) qm
    · skip
      refine W.iaload X20 hx hZ 104 4 (.int (2 : Int32)) e20 B ei (by decide) rfl (hb hby at_103) rfl ?_
      refine W.iload X20 hx 106 (hb hby at_104) rfl rfl ?_
      refine W.ishr X20 hx 107 (hb hby at_106) rfl ?_
      refine W.iconst X20 hx 108 (1 : Int32) (hb hby at_107) rfl rfl ?_
      refine W.iand X20 hx 109 (hb hby at_108) rfl ?_
      refine W.ifEq X20 hx 116 112 (hb hby at_109) (by decide) (by decide) rfl (fun qm => ?_) (fun qm => ?_)
      · skip
        refine W.iconst X20 hx 117 (0 : Int32) (hb hby at_116) rfl rfl ?_
        refine W.istore X20 hx 119 #[.val (.int p1), .val (.int p2), .val (.ref a1), .val (.ref a14), .val (.int kk), .val (.int (0 : Int32)), .val (.int (0 : Int32))] (hb hby at_117) rfl rfl ?_
        refine W.aloadN X20 hx 120 (hb hby at_119) rfl rfl rfl ?_
        refine W.iload X20 hx 122 (hb hby at_120) rfl rfl ?_
        refine W.aaload X20 hx hZ 123 4 (.ref x4) e20 A rfl ei (by decide) rfl (hb hby at_122) rfl ?_
        refine W.iloadN X20 hx 124 (hb hby at_123) rfl rfl ?_
        refine W.callV X20 hx hZ 127 0 x4 [(.int p2)] hown (hw _ (List.mem_of_getElem? (i := 18) rfl)) (hw _ (List.mem_of_getElem? (i := 19) rfl)) (hw _ (List.mem_of_getElem? (i := 21) rfl)) (hw _ (List.mem_of_getElem? (i := 20) rfl)) (hw _ (List.mem_of_getElem? (i := 3) rfl)) (hw _ (List.mem_of_getElem? (i := 22) rfl)) (by decide) pd_1 rfl e20 (E_x4.ext EX) (rmh4 l Z a0 hw x4 p2 h20 (E_x4.ext EX) (F_x4.ext EX)) (hb hby at_124) (by rw [hml]; rfl) rfl rfl (by decide) (by decide) (by decide) (by decide) rfl ?_
        rintro v37 T37 L37 X37 ⟨rfl, e37, rfl⟩
        refine W.iload X37 hx 129 (hb hby at_127) rfl rfl ?_
        refine W.icmpNe X37 hx 136 132 (hb hby at_129) (by decide) (by decide) rfl (fun qz => ?_) (fun qz => ?_)
        · exact absurd (by simp [own_h, q1, q3, q4]) qz
        · skip
          refine W.iconst X37 hx 133 (1 : Int32) (hb hby at_132) rfl rfl ?_
          refine W.goto X37 hx 137 (hb hby at_133) (by decide) (by decide) ?_
          refine W.nret X37 hx hlk (t := .boolean) hret (by simp) (hb hby at_137) (by decide) (by decide) ?_
          exact ⟨rfl, (Fr.app (Fr.app (Fr.app (Fr.app (Fr.app (Fr.app (Fr.app (Fr.app (Fr.app (Fr.app (Fr.app (Fr.app (Fr.app (Fr.nil _) (fr1 ge_a1)) (fr1 ge_a1)) (fr1 ge_a1)) (fr1 ge_a1)) (fr1 ge_a1)) (fr1 ge_a1)) (fr1 ge_a14)) (fr1 ge_a14)) (fr1 ge_a14)) (fr1 ge_a14)) (fr1 ge_a14)) (fr1 ge_a14)) (Fr.nil _))⟩
      · exact absurd (by decide) qm
    · skip
      refine W.iaload X20 hx hZ 104 5 (.int (5 : Int32)) e20 B ei (by decide) rfl (hb hby at_103) rfl ?_
      refine W.iload X20 hx 106 (hb hby at_104) rfl rfl ?_
      refine W.ishr X20 hx 107 (hb hby at_106) rfl ?_
      refine W.iconst X20 hx 108 (1 : Int32) (hb hby at_107) rfl rfl ?_
      refine W.iand X20 hx 109 (hb hby at_108) rfl ?_
      refine W.ifEq X20 hx 116 112 (hb hby at_109) (by decide) (by decide) rfl (fun qm => ?_) (fun qm => ?_)
      · exact absurd qm (by decide)
      · skip
        refine W.iconst X20 hx 113 (1 : Int32) (hb hby at_112) rfl rfl ?_
        refine W.goto X20 hx 117 (hb hby at_113) (by decide) (by decide) ?_
        refine W.istore X20 hx 119 #[.val (.int p1), .val (.int p2), .val (.ref a1), .val (.ref a14), .val (.int kk), .val (.int (0 : Int32)), .val (.int (1 : Int32))] (hb hby at_117) rfl rfl ?_
        refine W.aloadN X20 hx 120 (hb hby at_119) rfl rfl rfl ?_
        refine W.iload X20 hx 122 (hb hby at_120) rfl rfl ?_
        refine W.aaload X20 hx hZ 123 5 (.ref x5) e20 A rfl ei (by decide) rfl (hb hby at_122) rfl ?_
        refine W.iloadN X20 hx 124 (hb hby at_123) rfl rfl ?_
        refine W.callV X20 hx hZ 127 0 x5 [(.int p2)] hown (hw _ (List.mem_of_getElem? (i := 18) rfl)) (hw _ (List.mem_of_getElem? (i := 19) rfl)) (hw _ (List.mem_of_getElem? (i := 21) rfl)) (hw _ (List.mem_of_getElem? (i := 20) rfl)) (hw _ (List.mem_of_getElem? (i := 3) rfl)) (hw _ (List.mem_of_getElem? (i := 22) rfl)) (by decide) pd_1 rfl e20 (E_x5.ext EX) (rmh5 l Z a0 hw x5 p2 h20 (E_x5.ext EX) (F_x5.ext EX)) (hb hby at_124) (by rw [hml]; rfl) rfl rfl (by decide) (by decide) (by decide) (by decide) rfl ?_
        rintro v38 T38 L38 X38 ⟨rfl, e38, rfl⟩
        refine W.iload X38 hx 129 (hb hby at_127) rfl rfl ?_
        refine W.icmpNe X38 hx 136 132 (hb hby at_129) (by decide) (by decide) rfl (fun qz => ?_) (fun qz => ?_)
        · exact absurd (by simp [own_h, q1, q3, q4]) qz
        · skip
          refine W.iconst X38 hx 133 (1 : Int32) (hb hby at_132) rfl rfl ?_
          refine W.goto X38 hx 137 (hb hby at_133) (by decide) (by decide) ?_
          refine W.nret X38 hx hlk (t := .boolean) hret (by simp) (hb hby at_137) (by decide) (by decide) ?_
          exact ⟨rfl, (Fr.app (Fr.app (Fr.app (Fr.app (Fr.app (Fr.app (Fr.app (Fr.app (Fr.app (Fr.app (Fr.app (Fr.app (Fr.app (Fr.nil _) (fr1 ge_a1)) (fr1 ge_a1)) (fr1 ge_a1)) (fr1 ge_a1)) (fr1 ge_a1)) (fr1 ge_a1)) (fr1 ge_a14)) (fr1 ge_a14)) (fr1 ge_a14)) (fr1 ge_a14)) (fr1 ge_a14)) (fr1 ge_a14)) (Fr.nil _))⟩
set_option maxRecDepth 65536 in
set_option maxHeartbeats 40000000 in
theorem comes_1 {Post : Tables → Env → Array Value → State → Outcome → State → Prop} (hpost : ∀ tb e args s v u, (limb_1_1.after args s (.returned v) u = true ∧ limb_1_2.after args s (.returned v) u = true ∧ True) → FrameEnd s (.returned v) u (Jvm.fieldLocs frame_1_writes args s ++ Jvm.arrayLocs frame_1_arrays args s ++ Jvm.staticLocs frame_1_statics s) 16 128 → Post tb e args s (.returned v) u) :
    ArmFor flags0 classFile x code maxLocals ret World_1 tables_1 room_1 Calls_1 rest_1 Pre_1 Post := by
  intro l hfl _ _ p e ha hc hk s m args below hf hA hF happ hP
  obtain ⟨hcalls, hrest, hpre⟩ := hP
  obtain ⟨-, -, -, hnamed, -, -, -, hat⟩ := (Spec.applies_iff hf).mp happ
  obtain ⟨hg, hn⟩ := and_e (Cond.before_iff.mp (show (Jvm.Cond.and given_1 narrow_1).before args s = true from hpre))
  obtain ⟨hcount, hg0⟩ := and_e hg
  obtain ⟨k0, hg1⟩ := and_e hg0
  have k1 := hg1
  obtain ⟨w0, w1, rfl⟩ : ∃ w0 w1 : Value, args = #[w0, w1] := by
    have hs : args.size = 2 := by simpa [Cond.value, given_1] using hcount
    obtain ⟨L⟩ := args
    match L, hs with
    | [w0, w1], _ => exact ⟨w0, w1, rfl⟩
  have hw := fun d (hd : d ∈ tables_1) => atoms_spec (ws := Jvm.Cond.code x code maxLocals ret :: tables_1) hat d (List.mem_cons_of_mem _ hd)
  have hfit : Fit s := fun {y c} hc i hi => by
    obtain ⟨ha, rfl⟩ := Array.getElem?_eq_some_iff.mp hc
    have q := List.all_eq_true.mp ((Array.all_eq_true_iff_forall_mem.mp hF) _ (Array.getElem_mem ha)) i (List.mem_range.mpr hi)
    simpa [Array.getElem?_eq_getElem hi] using q
  obtain ⟨i0, j0⟩ := is_v k0
  obtain rfl : w0 = (.int i0) := Option.some.inj j0
  obtain ⟨i1, j1⟩ := is_v k1
  obtain rfl : w1 = (.int i1) := Option.some.inj j1
  obtain ⟨x0', hn⟩ := and_e hn
  obtain ⟨x1', hn⟩ := and_e hn
  obtain ⟨x2', hn⟩ := and_e hn
  obtain ⟨x3', hn⟩ := and_e hn
  obtain ⟨x4', hn⟩ := and_e hn
  obtain ⟨x5', hn⟩ := and_e hn
  obtain ⟨o0, hn⟩ := and_e hn
  obtain ⟨o2, hn⟩ := and_e hn
  obtain ⟨o4, hn⟩ := and_e hn
  obtain ⟨o1, hn⟩ := and_e hn
  obtain ⟨o5, hn⟩ := and_e hn
  have o3 := hn
  obtain ⟨x0, v0⟩ := exa_v x0'
  have E0 := Exa.start v0 x0'
  have S0 := Sta.start v0 (Or.inr ⟨(hw _ (List.mem_of_getElem? (i := 3) rfl)), (hw _ (List.mem_of_getElem? (i := 4) rfl))⟩)
  have F0 := own_fld v0 o0
  obtain ⟨x1, v1⟩ := exa_v x1'
  have E1 := Exa.start v1 x1'
  have S1 := Sta.start v1 (Or.inr ⟨(hw _ (List.mem_of_getElem? (i := 3) rfl)), (hw _ (List.mem_of_getElem? (i := 7) rfl))⟩)
  have F1 := own_fld v1 o1
  obtain ⟨x2, v2⟩ := exa_v x2'
  have E2 := Exa.start v2 x2'
  have S2 := Sta.start v2 (Or.inr ⟨(hw _ (List.mem_of_getElem? (i := 3) rfl)), (hw _ (List.mem_of_getElem? (i := 9) rfl))⟩)
  have F2 := own_fld v2 o2
  obtain ⟨x3, v3⟩ := exa_v x3'
  have E3 := Exa.start v3 x3'
  have S3 := Sta.start v3 (Or.inr ⟨(hw _ (List.mem_of_getElem? (i := 3) rfl)), (hw _ (List.mem_of_getElem? (i := 11) rfl))⟩)
  have F3 := own_fld v3 o3
  obtain ⟨x4, v4⟩ := exa_v x4'
  have E4 := Exa.start v4 x4'
  have S4 := Sta.start v4 (Or.inr ⟨(hw _ (List.mem_of_getElem? (i := 3) rfl)), (hw _ (List.mem_of_getElem? (i := 13) rfl))⟩)
  have F4 := own_fld v4 o4
  obtain ⟨x5, v5⟩ := exa_v x5'
  have E5 := Exa.start v5 x5'
  have S5 := Sta.start v5 (Or.inr ⟨(hw _ (List.mem_of_getElem? (i := 3) rfl)), (hw _ (List.mem_of_getElem? (i := 15) rfl))⟩)
  have F5 := own_fld v5 o5
  obtain ⟨n, o, h1, h2, h3, _, L, rfl, ⟨rfl, N⟩, hq⟩ := rm0 l s _ hw tables_1 i0 i1 x0 x1 x2 x3 x4 x5 s.heap s.heap.size (Nat.le_refl _) S0 S1 S2 S3 S4 S5 E0 E1 E2 E3 E4 E5 F0 F1 F2 F3 F4 F5 p e ha hc hk s m _ below hf ((Spec.applies_iff_loose hf).mp happ).1 ⟨rfl, State.Warmed39.refl s, rfl⟩ trivial
  refine ⟨n, _, h1, h2, h3, hpost _ _ _ _ _ _ ⟨Cond.after_iff.mpr rfl, Cond.after_iff.mpr (eq_i res_at (Term.int_eval (1)) rfl), trivial⟩ ⟨hq.1, hq.2.1, (hq.2.2.sift fun y hy => Or.inr (N y hy)).mono (by decide) (by decide)⟩⟩
theorem main_1_1 : Claimed_1_1 := comes_1 fun _ _ _ _ _ _ h hF => ⟨h.1, hF⟩
theorem main_1_2 : Claimed_1_2 := comes_1 fun _ _ _ _ _ _ h hF => ⟨h.2.1, hF⟩
end Jvm.Pilot.@@N@@
namespace Jvm.Pilot.@@N@@
open Jvm Jvm.ClassFile Sem Op Lib Jvm.Free Jvm.Stand Jvm.Pilot.@@N@@.Jvm.D
/-! MADE BY PROGRAM (witnessworld.py) out of the Statement's table words and the real class files: 13 classes; the members and pool entries that the words name. The judged class is class 1, her method 1. -/
namespace start1
open Jvm.ClassFile
def u (s : String) : CpInfo := .utf8 (stringToUtf16 s)
/-- a pool by its gaps: so many unusable entries, then the entry; so many at the end -/
def gap : Nat → List CpInfo → List CpInfo
  | 0, r => r
  | n + 1, r => .unusable :: gap n r
def poolList (es : List (Nat × CpInfo)) (last : Nat) : List CpInfo := es.foldr (fun e r => gap e.1 (e.2 :: r)) (gap last [])
def pool (es : List (Nat × CpInfo)) (last : Nat) : Array CpInfo := ⟨poolList es last⟩
def fileOf (pool : Array CpInfo) (this : Nat) (attrs : Array Attribute := #[]) (ms : Array MethodInfo := #[]) (fl : Nat := 33) (sup : Nat := 0) (ifs : Array Nat := #[]) (fds : Array FieldInfo := #[]) : ClassFile where
  minorVersion := 0
  majorVersion := 65
  constantPool := pool
  accessFlags := fl
  thisClass := this
  superClass := sup
  interfaces := ifs
  fields := fds
  methods := ms
  attributes := attrs
def plain (name : String) (sup : Option ClassId) : Class where
  name := name
  kind := .ordinary
  loader := none
  accessFlags := 33
  super := sup
  interfaces := #[]
  cf := none
  fields := #[]
  methods := #[]
  instanceTypes := #[]
  staticTypes := #[]
  resolved := #[]
  callSites := []
  init := .initialized
  statics := none
  mirror := none

def pool0 : Array CpInfo := pool [(5, u "<init>"), (0, u "()V"), (1, .class_ 10), (1, u "java/lang/Object")] 113

def k0m0 : Method := { name := "<init>", desc := "()V", sig := { parameters := [], returnType := none }, accessFlags := 1, code := none }
/-- java/lang/Object -/
def k0 : Class := { plain "java/lang/Object" none with
  accessFlags := 33
  interfaces := #[]
  cf := some (fileOf pool0 8 #[] #[{ accessFlags := 1, nameIndex := 5, descriptorIndex := 6, attributes := #[] }] 33 0 #[] #[])
  fields := #[]
  methods := #[k0m0]
  instanceTypes := #[]
  staticTypes := #[]
  resolved := Array.replicate 124 none
  statics := none }

def pool1 : Array CpInfo := pool [(2, .class_ 4), (1, u "java/lang/Object"), (0, u "<init>"), (0, u "()V"), (0, .class_ 8), (0, u "com/example/guardnet/guardnet/guard/Operator"), (0, .fieldref 7 10), (0, .nameAndType 11 12), (0, u "LT"), (0, u "Lcom/example/guardnet/guardnet/guard/Operator;"), (0, .fieldref 7 14), (0, .nameAndType 15 12), (0, u "LE"), (0, .fieldref 7 17), (0, .nameAndType 18 12), (0, u "GT"), (0, .fieldref 7 20), (0, .nameAndType 21 12), (0, u "GE"), (0, .fieldref 7 23), (0, .nameAndType 24 12), (0, u "EQ"), (0, .fieldref 7 26), (0, .nameAndType 27 12), (0, u "NE"), (0, .integer 2147483647), (0, .methodref 7 30), (0, .nameAndType 31 32), (0, u "holds"), (0, u "(I)Z"), (0, .class_ 34), (0, u "com/example/guardnet/guardnet/guard/OperatorHoldsPinLaw"), (2, u "law"), (0, u "(II)Z")] 7

def k1m0 : Method := { name := "<init>", desc := "()V", sig := { parameters := [], returnType := none }, accessFlags := 1, code := none }
def k1c1 : Code := { maxStack := 4, maxLocals := 7, code := code, exceptionTable := #[], attributes := #[] }
def k1m1 : Method := { name := "law", desc := "(II)Z", sig := { parameters := [.int, .int], returnType := some .boolean }, accessFlags := 9, code := some k1c1 }
/-- com/example/guardnet/guardnet/guard/OperatorHoldsPinLaw -/
def k1 : Class := { plain "com/example/guardnet/guardnet/guard/OperatorHoldsPinLaw" (some 0) with
  accessFlags := 49
  interfaces := #[]
  cf := some (fileOf pool1 33 #[] #[{ accessFlags := 1, nameIndex := 5, descriptorIndex := 6, attributes := #[] }, { accessFlags := 9, nameIndex := 37, descriptorIndex := 38, attributes := #[] }] 49 2 #[] #[])
  fields := #[]
  methods := #[k1m0, k1m1]
  instanceTypes := #[]
  staticTypes := #[]
  resolved := Array.replicate 46 none
  statics := none }

def pool2 : Array CpInfo := pool [(1, .class_ 2), (0, u "java/lang/constant/Constable"), (0, .class_ 4), (0, u "java/lang/Object")] 6

/-- java/lang/constant/Constable -/
def k2 : Class := { plain "java/lang/constant/Constable" (some 0) with
  accessFlags := 1537
  interfaces := #[]
  cf := some (fileOf pool2 1 #[] #[] 1537 3 #[] #[])
  fields := #[]
  methods := #[]
  instanceTypes := #[]
  staticTypes := #[]
  resolved := Array.replicate 11 none
  statics := none }

def pool3 : Array CpInfo := pool [(1, .class_ 2), (0, u "java/lang/Comparable"), (0, .class_ 4), (0, u "java/lang/Object")] 7

/-- java/lang/Comparable -/
def k3 : Class := { plain "java/lang/Comparable" (some 0) with
  accessFlags := 1537
  interfaces := #[]
  cf := some (fileOf pool3 1 #[] #[] 1537 3 #[] #[])
  fields := #[]
  methods := #[]
  instanceTypes := #[]
  staticTypes := #[]
  resolved := Array.replicate 12 none
  statics := none }

def pool4 : Array CpInfo := pool [(1, .class_ 2), (0, u "java/io/Serializable"), (0, .class_ 4), (0, u "java/lang/Object")] 2

/-- java/io/Serializable -/
def k4 : Class := { plain "java/io/Serializable" (some 0) with
  accessFlags := 1537
  interfaces := #[]
  cf := some (fileOf pool4 1 #[] #[] 1537 3 #[] #[])
  fields := #[]
  methods := #[]
  instanceTypes := #[]
  staticTypes := #[]
  resolved := Array.replicate 7 none
  statics := none }

def pool5 : Array CpInfo := pool [(2, .class_ 4), (1, u "java/lang/Enum"), (0, u "name"), (0, u "Ljava/lang/String;"), (0, .fieldref 2 8), (0, .nameAndType 9 10), (0, u "ordinal"), (0, u "I"), (1, .class_ 14), (1, u "java/lang/Object"), (4, u "hash"), (86, .class_ 108), (1, u "java/lang/Enum$EnumDesc"), (2, .class_ 112), (0, u "java/lang/constant/Constable"), (0, .class_ 114), (0, u "java/lang/Comparable"), (0, .class_ 116), (0, u "java/io/Serializable"), (9, u "()I")] 77

def k5c0 : Code := { maxStack := 1, maxLocals := 1, code := jdk_37_method_2_code, exceptionTable := #[], attributes := #[] }
def k5m0 : Method := { name := "ordinal", desc := "()I", sig := { parameters := [], returnType := some .int }, accessFlags := 17, code := some k5c0 }
/-- java/lang/Enum -/
def k5 : Class := { plain "java/lang/Enum" (some 0) with
  accessFlags := 1057
  interfaces := #[2, 3, 4]
  cf := some (fileOf pool5 2 #[.nestMembers #[106]] #[{ accessFlags := 17, nameIndex := 9, descriptorIndex := 126, attributes := #[] }] 1057 12 #[111, 113, 115] #[{ accessFlags := 18, nameIndex := 5, descriptorIndex := 6, attributes := #[] }, { accessFlags := 18, nameIndex := 9, descriptorIndex := 10, attributes := #[] }, { accessFlags := 2, nameIndex := 19, descriptorIndex := 10, attributes := #[] }])
  fields := #[{ name := "name", type := (.object "java/lang/String"), accessFlags := 18, slot := 0, constantValue := 0 }, { name := "ordinal", type := .int, accessFlags := 18, slot := 1, constantValue := 0 }, { name := "hash", type := .int, accessFlags := 2, slot := 2, constantValue := 0 }]
  methods := #[k5m0]
  instanceTypes := #[(.object "java/lang/String"), .int, .int]
  staticTypes := #[]
  resolved := Array.replicate 204 none
  statics := none }

def pool6 : Array CpInfo := pool [(1, .class_ 2), (0, u "com/example/guardnet/guardnet/guard/Operator"), (2, u "LT"), (0, u "Lcom/example/guardnet/guardnet/guard/Operator;"), (2, u "LE"), (2, u "GT"), (2, u "GE"), (2, u "EQ"), (2, u "NE"), (2, u "$VALUES"), (0, u "[Lcom/example/guardnet/guardnet/guard/Operator;"), (6, .class_ 34), (1, u "java/lang/Enum"), (8, u "symbol"), (0, u "Ljava/lang/String;"), (20, .methodref 1 66), (0, .nameAndType 67 68), (0, u "ordinal"), (0, u "()I"), (43, u "holds"), (0, u "(I)Z")] 7

def k6c0 : Code := { maxStack := 4, maxLocals := 2, code := prog_48_method_7_code, exceptionTable := #[], attributes := #[] }
def k6m0 : Method := { name := "holds", desc := "(I)Z", sig := { parameters := [.int], returnType := some .boolean }, accessFlags := 1, code := some k6c0 }
/-- com/example/guardnet/guardnet/guard/Operator -/
def k6 : Class := { plain "com/example/guardnet/guardnet/guard/Operator" (some 5) with
  accessFlags := 16433
  interfaces := #[]
  cf := some (fileOf pool6 1 #[] #[{ accessFlags := 1, nameIndex := 112, descriptorIndex := 113, attributes := #[] }] 16433 32 #[] #[{ accessFlags := 16409, nameIndex := 5, descriptorIndex := 6, attributes := #[] }, { accessFlags := 16409, nameIndex := 9, descriptorIndex := 6, attributes := #[] }, { accessFlags := 16409, nameIndex := 12, descriptorIndex := 6, attributes := #[] }, { accessFlags := 16409, nameIndex := 15, descriptorIndex := 6, attributes := #[] }, { accessFlags := 16409, nameIndex := 18, descriptorIndex := 6, attributes := #[] }, { accessFlags := 16409, nameIndex := 21, descriptorIndex := 6, attributes := #[] }, { accessFlags := 18, nameIndex := 43, descriptorIndex := 44, attributes := #[] }, { accessFlags := 4122, nameIndex := 24, descriptorIndex := 25, attributes := #[] }])
  fields := #[{ name := "LT", type := (.object "com/example/guardnet/guardnet/guard/Operator"), accessFlags := 16409, slot := 0, constantValue := 0 }, { name := "LE", type := (.object "com/example/guardnet/guardnet/guard/Operator"), accessFlags := 16409, slot := 1, constantValue := 0 }, { name := "GT", type := (.object "com/example/guardnet/guardnet/guard/Operator"), accessFlags := 16409, slot := 2, constantValue := 0 }, { name := "GE", type := (.object "com/example/guardnet/guardnet/guard/Operator"), accessFlags := 16409, slot := 3, constantValue := 0 }, { name := "EQ", type := (.object "com/example/guardnet/guardnet/guard/Operator"), accessFlags := 16409, slot := 4, constantValue := 0 }, { name := "NE", type := (.object "com/example/guardnet/guardnet/guard/Operator"), accessFlags := 16409, slot := 5, constantValue := 0 }, { name := "symbol", type := (.object "java/lang/String"), accessFlags := 18, slot := 3, constantValue := 0 }, { name := "$VALUES", type := (.array (.object "com/example/guardnet/guardnet/guard/Operator")), accessFlags := 4122, slot := 6, constantValue := 0 }]
  methods := #[k6m0]
  instanceTypes := #[(.object "java/lang/String"), .int, .int, (.object "java/lang/String")]
  staticTypes := #[(.object "com/example/guardnet/guardnet/guard/Operator"), (.object "com/example/guardnet/guardnet/guard/Operator"), (.object "com/example/guardnet/guardnet/guard/Operator"), (.object "com/example/guardnet/guardnet/guard/Operator"), (.object "com/example/guardnet/guardnet/guard/Operator"), (.object "com/example/guardnet/guardnet/guard/Operator"), (.array (.object "com/example/guardnet/guardnet/guard/Operator"))]
  resolved := Array.replicate 121 none
  statics := some 0 }

def pool7 : Array CpInfo := pool [(1, u "java/lang/Cloneable"), (0, .class_ 1), (0, u "java/lang/Object"), (0, .class_ 3)] 3

/-- java/lang/Cloneable -/
def k7 : Class := { plain "java/lang/Cloneable" (some 0) with
  accessFlags := 1537
  interfaces := #[]
  cf := some (fileOf pool7 2 #[] #[] 1537 4 #[] #[])
  fields := #[]
  methods := #[]
  instanceTypes := #[]
  staticTypes := #[]
  resolved := Array.replicate 8 none
  statics := none }

/-- the primitive byte -/
def k8 : Class := { plain "byte" none with kind := .primitive 'B', accessFlags := 0x411 }
/-- [B -/
def k9 : Class := { plain "[B" (some 0) with kind := .array 8 .byte, interfaces := #[7, 4], accessFlags := 1041 }

/-- the primitive int -/
def k10 : Class := { plain "int" none with kind := .primitive 'I', accessFlags := 0x411 }
/-- [I -/
def k11 : Class := { plain "[I" (some 0) with kind := .array 10 .int, interfaces := #[7, 4], accessFlags := 1041 }

/-- [Lcom/example/guardnet/guardnet/guard/Operator; -/
def k12 : Class := { plain "[Lcom/example/guardnet/guardnet/guard/Operator;" (some 0) with kind := .array 6 (.object "com/example/guardnet/guardnet/guard/Operator"), interfaces := #[7, 4], accessFlags := 1041 }

def heap : Heap := #[{ cls := 6, slots := #[.ref 1, .ref 2, .ref 3, .ref 4, .ref 5, .ref 6, .null], vm := .statics 6 },
  { cls := 6, slots := #[.null, .int 0, .int 0, .null], vm := .none },
  { cls := 6, slots := #[.null, .int 1, .int 0, .null], vm := .none },
  { cls := 6, slots := #[.null, .int 2, .int 0, .null], vm := .none },
  { cls := 6, slots := #[.null, .int 3, .int 0, .null], vm := .none },
  { cls := 6, slots := #[.null, .int 4, .int 0, .null], vm := .none },
  { cls := 6, slots := #[.null, .int 5, .int 0, .null], vm := .none }]
def classes : Array Class := #[k0, k1, k2, k3, k4, k5, k6, k7, k8, k9, k10, k11, k12]
def interned : List (Array UInt16 × Addr) := []
def slotsUsed : Nat := 31
def theMethod : MethodId := ⟨1, 1⟩
def args0 : Array Value := #[.int 3, .int 100]
def aboutOver (below : List Frame) : State where
  vm := { classes := classes, interned := interned.toArray }
  heap := heap
  slotsUsed := slotsUsed
  threads := #[{ frames := .invoking theMethod args0 :: below }]
def below0 : List Frame := [.native { method := ⟨0, 0⟩, args := #[] }]
def about1 : State := aboutOver below0
def p0 : Program := .bare "" "" ""
def e0 : Env := launch0.env 0 0 0
theorem w_frames : about1.frames = Frame.invoking theMethod args0 :: below0 := rfl
set_option maxRecDepth 65536 in
theorem w_args : argsFit about1.vm theMethod args0 = true := by decide +kernel
set_option maxRecDepth 65536 in
theorem w_heap : heapFits about1 = true := by decide +kernel
set_option maxRecDepth 65536 in
theorem w_runnable : about1.curStatus? = some .runnable := by decide +kernel
set_option maxRecDepth 65536 in
theorem w_alone : about1.alone = true := by decide +kernel
set_option maxRecDepth 65536 in
theorem w_named : about1.methodNamed? x = some theMethod := by decide +kernel
set_option maxRecDepth 65536 in
theorem w_hears : about1.hears theMethod below0 = true := by decide +kernel
set_option maxRecDepth 65536 in
theorem w_ripe : about1.ripe theMethod args0 below0 = true := by decide +kernel
theorem w_running : about1.status = .running := rfl
set_option maxRecDepth 65536 in
theorem w_room : about1.hasRoom e0.platform room_1 = true :=
  launch0.hasRoom_least _ room_1 (by decide +kernel) (by decide +kernel) (by decide +kernel) (by decide +kernel) (by decide +kernel) (by decide +kernel)
theorem allAtoms_all (ts : List Jvm.Cond) (a : Array Jvm.Value) (st : Jvm.State) : (allAtoms ts).before a st = ts.all (fun c => c.before a st) := by
  induction ts with
  | nil => rfl
  | cons c t ih =>
    show (Jvm.Cond.and c (allAtoms t)).before a st = _
    rw [Jvm.Cond.before_and, ih, List.all_cons]
def words1 : List Jvm.Cond := Jvm.Cond.code x code maxLocals ret :: tables_1
/-- a 'code' word, met by the world's own term for the bytes: nothing is compared byte by byte -/
theorem code_word {y : MethodName} {bytes : ByteArray} {mx : Nat} {rt : Option FieldType} {a : Array Value} {s : State} {m : MethodId} {meth : Method} {c : Code} (h1 : s.methodNamed? y = some m) (h2 : s.vm.method? m = some meth) (h3 : meth.code = some c) (h4 : c.code = bytes)
    (h5 : (c.maxLocals == mx && c.exceptionTable.isEmpty && decide (c.maxStack ≤ mostOperands) && decide (meth.sig.returnType = rt) && !meth.locks && decide (parseMethodDescriptor y.desc = some meth.sig)) = true) : (Jvm.Cond.code y bytes mx rt).before a s = true := by
  simp only [Bool.and_eq_true, beq_iff_eq, Bool.not_eq_true', decide_eq_true_eq] at h5
  obtain ⟨⟨⟨⟨⟨g1, g2⟩, g3⟩, g4⟩, g5⟩, g6⟩ := h5
  simp [Cond.before, Cond.holds, Cond.value, h1, h2, h3, h4, g1, g2, g3, g4, g5, g6]
def isCode : Jvm.Cond → Bool
  | .code _ _ _ _ => true
  | _ => false
theorem all_split {L : List Jvm.Cond} {P : Jvm.Cond → Bool} (h1 : L.all (fun c => isCode c || P c) = true) (h2 : ∀ c ∈ L.filter isCode, P c = true) : L.all P = true := by
  refine List.all_eq_true.mpr fun c hc => ?_
  have h := List.all_eq_true.mp h1 c hc
  rcases Bool.eq_false_or_eq_true (isCode c) with hi | hi
  · exact h2 c (List.mem_filter.mpr ⟨hc, hi⟩)
  · simpa [hi] using h
set_option maxRecDepth 65536 in
theorem w_c0 : (Jvm.Cond.code x code maxLocals ret).before args0 about1 = true := code_word (m := ⟨1, 1⟩) (meth := k1m1) (c := k1c1) (by decide +kernel) rfl rfl rfl (by decide +kernel)
set_option maxRecDepth 65536 in
theorem w_c1 : (Jvm.Cond.code ({ cls := "com/example/guardnet/guardnet/guard/Operator", name := "holds", desc := "(I)Z" } : Jvm.MethodName) prog_48_method_7_code (2 : Nat) (Option.some Jvm.ClassFile.FieldType.boolean)).before args0 about1 = true := code_word (m := ⟨6, 0⟩) (meth := k6m0) (c := k6c0) (by decide +kernel) rfl rfl rfl (by decide +kernel)
set_option maxRecDepth 65536 in
theorem w_c2 : (Jvm.Cond.code ({ cls := "java/lang/Enum", name := "ordinal", desc := "()I" } : Jvm.MethodName) jdk_37_method_2_code (1 : Nat) (Option.some Jvm.ClassFile.FieldType.int)).before args0 about1 = true := code_word (m := ⟨5, 0⟩) (meth := k5m0) (c := k5c0) (by decide +kernel) rfl rfl rfl (by decide +kernel)
def codes1 : List Jvm.Cond := [Jvm.Cond.code x code maxLocals ret, Jvm.Cond.code ({ cls := "com/example/guardnet/guardnet/guard/Operator", name := "holds", desc := "(I)Z" } : Jvm.MethodName) prog_48_method_7_code (2 : Nat) (Option.some Jvm.ClassFile.FieldType.boolean), Jvm.Cond.code ({ cls := "java/lang/Enum", name := "ordinal", desc := "()I" } : Jvm.MethodName) jdk_37_method_2_code (1 : Nat) (Option.some Jvm.ClassFile.FieldType.int)]
set_option maxRecDepth 65536 in
theorem codes_eq : words1.filter isCode = codes1 := rfl
theorem w_codes : ∀ c ∈ words1.filter isCode, c.before args0 about1 = true := by
  rw [codes_eq]
  intro c hc
  simp only [codes1, List.mem_cons, List.not_mem_nil, or_false] at hc
  rcases hc with rfl | rfl | rfl
  · exact w_c0
  · exact w_c1
  · exact w_c2
set_option maxRecDepth 65536 in
theorem w_t1 : (words1.take 24).all (fun c => isCode c || c.before args0 about1) = true := by decide +kernel
set_option maxRecDepth 65536 in
theorem w_t2 : (words1.drop 24).all (fun c => isCode c || c.before args0 about1) = true := by decide +kernel
theorem w_tables : (allAtoms (Jvm.Cond.code x code maxLocals ret :: tables_1)).before args0 about1 = true := by
  rw [allAtoms_all]
  show words1.all (fun c => c.before args0 about1) = true
  refine all_split ?_ w_codes
  rw [← List.take_append_drop 24 words1, List.all_append, w_t1, w_t2]
  rfl
set_option maxRecDepth 65536 in
theorem w_case : (Jvm.Cond.and given_1 narrow_1).before args0 about1 = true := by decide +kernel
theorem w_applies : (headSpec (Jvm.Cond.code x code maxLocals ret :: tables_1) room_1).applies x e0.platform about1 = true :=
  (Spec.applies_iff w_frames).mpr ⟨w_running, w_runnable, w_alone, w_named, w_hears, w_ripe, w_room, w_tables⟩
theorem atStart : AtStart classFile x code maxLocals ret World_1 tables_1 room_1 Calls_1 rest_1 Pre_1 launch0 p0 e0 about1 theMethod args0 below0 :=
  ⟨lists_1, trivial, launch0.admits_env _ _ _, launch0.least_env, fairChoices_fair.cas, fairChoices_fair.clock, w_frames, w_args, w_heap, w_applies, trivial, trivial, w_case⟩
end start1
theorem witness_1 : WitnessClaimed_1 := ⟨start1.p0, start1.e0, start1.about1, start1.theMethod, start1.args0, start1.below0, start1.atStart⟩
end Jvm.Pilot.@@N@@
