import JvmDerived
import JvmDerived.Pilot.@@N@@Statement
import JvmDerived.Pilot.@@N@@Code
set_option linter.unusedVariables false
set_option linter.unusedSimpArgs false
namespace Jvm.OwnW
open Sem ClassFile Op Lib Jvm.Stand Jvm.Free Jvm.LawKit Jvm.RoadKit
/-- what is left to be shown of a walk that stands at S: it comes back, Q holds, the frame holds -/
def Wp (p : Program) (e : Env) (s : State) (below : List Frame) (Q : Option Value → Heap → List Loc → Prop) (kc ks : Nat) (S : State) : Prop :=
  ∃ s₂ o, Steps p.tables e below S s₂ ∧ s₂.status = .running ∧ Ended s₂ below o ∧ ∃ v L, o = .returned v ∧ Q v s₂.heap L ∧ FrameEnd s o s₂ L kc ks
/-- a method's contract at given arguments and a given heap -/
def Con (l : Launch) (Z : State) (y : MethodName) (bytes : ByteArray) (maxL : Nat) (ret : Option FieldType) (ws : List Jvm.Cond) (rm : Room) (as' : Array Value) (h0 : Heap) (Q : Option Value → Heap → List Loc → Prop) : Prop :=
  MetFree l y (head1 (Jvm.Cond.code y bytes maxL ret :: ws) rm) (fun a U => a = as' ∧ Z.Warmed39 U.vm ∧ U.heap = h0) (fun _ _ _ _ _ => True) (fun _ U o U' => ∃ v L, o = .returned v ∧ Q v U'.heap L ∧ FrameEnd U o U' L rm.cells rm.slots)
/-- an array: its kind, length, and what each place holds -/
def IArr (Z : State) (h : Heap) (a : Addr) (ty : FieldType) (n : Nat) (f : Nat → Value) : Prop := ∃ c : Cell, Arr Z h a c ty ∧ c.slots.size = n ∧ ∀ j, j < n → c.slots[j]? = some (f j)
def upd (f : Nat → Value) (i : Nat) (v : Value) : Nat → Value := fun k => if k = i then v else f k
theorem upd_same (f : Nat → Value) (i : Nat) (v : Value) : upd f i v i = v := by simp [upd]
theorem upd_ne {f : Nat → Value} {i k : Nat} {v : Value} (q : k ≠ i) : upd f i v k = f k := by simp [upd, q]
section W
variable {p : Program} {l : Launch} {e : Env} {R : Room} {s : State} {m : MethodId} {args : Array Value} {below : List Frame} {meth : Method} {c : Code} {T : State} {locs : List Loc} {cells slots : Nat} {Q : Option Value → Heap → List Loc → Prop} {kc ks : Nat} {Z : State} {a0 : Array Value} {h h' : Heap} {pc : Nat} {Ls : Array Slot} {st rest : List Value} {a b : Addr} {n : Nat} {f : Nat → Value} {ty : FieldType}
theorem IArr.lt (A : IArr Z h a ty n f) : a < h.size := by obtain ⟨c, A, -⟩ := A; exact A.lt
theorem IArr.ext (A : IArr Z h a ty n f) (E : Ext h h') : IArr Z h' a ty n f := by obtain ⟨c, A, r⟩ := A; exact ⟨c, A.ext E, r⟩
theorem IArr.other {sl : Nat} {v : Value} (A : IArr Z h b ty n f) (W : Wr h h' a sl v) (q : b ≠ a) : IArr Z h' b ty n f := by obtain ⟨c, A, r⟩ := A; exact ⟨c, A.other W q, r⟩
theorem IArr.keep {ws : List Addr} (A : IArr Z h a ty n f) (K : Keep h h' ws) (q : a ∉ ws) : IArr Z h' a ty n f := by obtain ⟨c, A, r⟩ := A; exact ⟨c, ⟨K.2.1 a c A.1 q, A.2⟩, r⟩
theorem IArr.same {i : Nat} {v : Value} (A : IArr Z h a ty n f) (W : Wr h h' a i v) : IArr Z h' a ty n (upd f i v) := by
  obtain ⟨c, A, S, H⟩ := A
  refine ⟨_, A.same W, by rw [sz_set]; exact S, fun j hj => ?_⟩
  unfold upd Cell.setSlot
  dsimp only
  split
  · rename_i q; subst q
    rw [Array.getElem?_setIfInBounds_self_of_lt (by omega)]
  · rename_i q
    rw [Array.getElem?_setIfInBounds_ne (Ne.symm q)]; exact H j hj
theorem IArr.fresh {cA : ClassId} {z : Int32} {k : Nat} (A : Arr Z h a (newA cA ty z) ty) (q : z.toNatClampNeg = k) : IArr Z h a ty k (fun _ => defaultValue ty) :=
  ⟨_, A, by rw [sz_new]; exact q, fun j hj => by subst q; simp [newA, hj]⟩
theorem IArr.cong {g : Nat → Value} (A : IArr Z h a ty n f) (q : ∀ j, j < n → g j = f j) : IArr Z h a ty n g := by
  obtain ⟨c, A, S, H⟩ := A; exact ⟨c, A, S, fun j hj => by rw [H j hj, q j hj]⟩
theorem nat_of {j : Int32} {i : Nat} (hj : j.toInt = (i : Int)) : ¬ j < 0 ∧ j.toNatClampNeg = i := by
  refine ⟨?_, ?_⟩
  · rw [Int32.lt_iff_toInt_lt, hj]; show ¬ (i : Int) < 0; omega
  · show j.toInt.toNat = i; rw [hj]; rfl
theorem fr1 {k : Nat} {a : Addr} {i : Nat} (q : k ≤ a) : Fr k [⟨a, i⟩] := fun y hy => by cases List.mem_singleton.mp hy; exact q
theorem own_and (x M : Int32) (hM : 0 ≤ M.toInt) : ∃ n : Nat, (n : Int) ≤ M.toInt ∧ (x &&& M).toInt = (n : Int) := by
  have h1 : (x &&& M).toBitVec.toNat ≤ M.toBitVec.toNat := by rw [Int32.toBitVec_and, BitVec.toNat_and]; exact Nat.and_le_right
  have h2 : M.toInt = if 2 * M.toBitVec.toNat < 2 ^ 32 then (M.toBitVec.toNat : Int) else (M.toBitVec.toNat : Int) - (2 ^ 32 : Nat) := BitVec.toInt_eq_toNat_cond _
  have h3 : (x &&& M).toInt = if 2 * (x &&& M).toBitVec.toNat < 2 ^ 32 then ((x &&& M).toBitVec.toNat : Int) else ((x &&& M).toBitVec.toNat : Int) - (2 ^ 32 : Nat) := BitVec.toInt_eq_toNat_cond _
  have h4 := M.toBitVec.isLt
  refine ⟨(x &&& M).toBitVec.toNat, ?_, ?_⟩
  · split at h2 <;> omega
  · split at h2 <;> split at h3 <;> omega
theorem own_rem {x y : Int32} (hx : 0 ≤ x.toInt) (hy : 0 < y.toInt) : ∃ n : Nat, (n : Int) < y.toInt ∧ (x % y).toInt = (n : Int) ∧ (n : Int) = x.toInt % y.toInt := by
  have h1 : (x % y).toInt = x.toInt.tmod y.toInt := Int32.toInt_mod _ _
  rw [Int.tmod_eq_emod_of_nonneg hx] at h1
  have h2 := Int.emod_nonneg x.toInt (Int.ne_of_gt hy)
  have h3 := Int.emod_lt_of_pos x.toInt hy
  exact ⟨(x.toInt % y.toInt).toNat, by omega, by omega, by omega⟩
theorem own_add {x y : Int32} (h1 : -2147483648 ≤ x.toInt + y.toInt) (h2 : x.toInt + y.toInt < 2147483648) : (x + y).toInt = x.toInt + y.toInt := by
  have a := c_iadd x y
  have r := rng32 (x + y)
  omega
theorem own_sub {x y : Int32} (h1 : -2147483648 ≤ x.toInt - y.toInt) (h2 : x.toInt - y.toInt < 2147483648) : (x - y).toInt = x.toInt - y.toInt := by
  have a := c_isub x y
  have r := rng32 (x - y)
  omega
theorem own_ofNat {n : Nat} (h : n < 2147483648) : (Int32.ofNat n).toInt = (n : Int) := Int32.toInt_ofNat_of_lt h
theorem own_ieq {x : Int32} {n : Nat} (h : x.toInt = (n : Int)) : x = Int32.ofNat n := by
  have r := rng32 x
  apply Int32.toInt_inj.mp; rw [h, own_ofNat (by omega)]
theorem Wp.step {S S' : State} (f : ∀ t, Steps p.tables e below S' t → Steps p.tables e below S t) (k : Wp p e s below Q kc ks S') : Wp p e s below Q kc ks S := by
  obtain ⟨s₂, o, h1, r⟩ := k
  exact ⟨s₂, o, f _ h1, r⟩
theorem Wp.chain {S S' : State} (f : Steps p.tables e below S S') (k : Wp p e s below Q kc ks S') : Wp p e s below Q kc ks S := by
  obtain ⟨s₂, o, h1, r⟩ := k
  exact ⟨s₂, o, f.trans h1, r⟩
theorem Wp.cast {S S' : State} (q : S = S') (k : Wp p e s below Q kc ks S') : Wp p e s below Q kc ks S := q ▸ k
theorem Wp.enter {g g' : JFrame} (q : g = g') (k : Wp p e s below Q kc ks (T.setTop g')) : Wp p e s below Q kc ks (T.setTop g) := q ▸ k
theorem Wp.mono {S : State} {Q' : Option Value → Heap → List Loc → Prop} {kc' ks' : Nat} (k : Wp p e s below Q' kc' ks' S) (hq : ∀ v h L, Q' v h L → Q v h L) (h1 : kc' ≤ kc) (h2 : ks' ≤ ks) : Wp p e s below Q kc ks S := by
  obtain ⟨s₂, o, g1, g2, g3, v, L, g4, g5, g6, g7, g8⟩ := k
  exact ⟨s₂, o, g1, g2, g3, v, L, g4, hq _ _ _ g5, g6, g7, g8.mono h1 h2⟩
theorem Con.of {y : MethodName} {bytes : ByteArray} {maxL : Nat} {ret : Option FieldType} {ws : List Jvm.Cond} {rm : Room} {as' : Array Value} (hpn : plainFor y = true)
    (w : ∀ p e s m below meth c s₁, p.tables.exec = Jvm.exec → c.code = bytes → c.maxLocals = maxL → s.vm.findClass y.cls = some m.cls → meth.name = y.name → meth.sig.returnType = ret → meth.locks = false → Z.Warmed39 s.vm → Stand p l e rm s m as' below meth c s₁ [] 0 0 → s₁.heap = h → Wp p e s below Q rm.cells rm.slots (s₁.setTop (entryFrame m as' maxL))) :
    Con l Z y bytes maxL ret ws rm as' h Q := by
  refine MetFree.of_bodySF hpn hisR ?_
  intro p e s m args below meth c s₁ Bd hml0 hP hK
  obtain ⟨rfl, hZ, hh⟩ := hP
  exact w p e s m below meth c s₁ Bd.exec Bd.bytes hml0 (findClass_of_methodNamed Bd.named) (name_of_methodNamed Bd.named Bd.method).1 Bd.returns (BodyLoose.notSynchronized Bd) hZ (Stand.of_body Bd) (by rw [← hh, Bd.state]; rfl)
theorem Con.mono {y : MethodName} {bytes : ByteArray} {maxL : Nat} {ret : Option FieldType} {ws : List Jvm.Cond} {rm : Room} {as' : Array Value} {Q' : Option Value → Heap → List Loc → Prop} (k : Con l Z y bytes maxL ret ws rm as' h Q') (hq : ∀ v h L, Q' v h L → Q v h L) : Con l Z y bytes maxL ret ws rm as' h Q := by
  intro p e h1 h2 h3 s m args below h4 h5 h6 h7
  obtain ⟨n, o, g1, g2, g3, v, L, g4, g5, g6⟩ := k p e h1 h2 h3 s m args below h4 h5 h6 h7
  exact ⟨n, o, g1, g2, g3, v, L, g4, hq _ _ _ g5, g6⟩
/-! the ends -/
theorem Wp.done (X : Stand p l e R s m args below meth c T locs cells slots) (hlk : meth.locks = false) {v : Option Value} (hv : meth.sig.returnType = none → v = none)
    (stp : ∀ fs, (∀ (f : JFrame) (acts : List Action), f.method = m → f.locked = none → f.entered = [] → (doReturn e (T.setTop f) acts v).1 = T.setFrames fs) → Steps p.tables e below (T.setTop (mkF m pc Ls st)) (T.setFrames fs))
    (hQ : Q v T.heap locs) (hc : cells ≤ kc) (hs : slots ≤ ks) : Wp p e s below Q kc ks (T.setTop (mkF m pc Ls st)) := by
  obtain ⟨fs, hr, hrun, hended, hW, hsame⟩ := X.leave (v := v) hv hlk
  exact ⟨_, _, stp fs hr, hrun, hended, v, locs, rfl, hQ, ⟨_, rfl⟩, hW, hsame.mono hc hs⟩
theorem W.iret (X : Stand p l e R s m args below meth c T locs cells slots) (hx : p.tables.exec = Jvm.exec) (hlk : meth.locks = false) (hret : meth.sig.returnType = some .int) (hd : decode c.code pc = .ok (.ireturn, 1)) {z : Int32} (hc : cells ≤ kc) (hs : slots ≤ ks) (hQ : Q (some (.int z)) T.heap locs) : Wp p e s below Q kc ks (T.setTop (mkF m pc Ls (.int z :: rest))) :=
  Wp.done X hlk (fun h => by rw [hret] at h; cases h) (fun fs hr => retOut X hx hret rfl (Or.inl ⟨rfl, Or.inl rfl, _, rfl⟩) hd hr) hQ hc hs
theorem W.nret (X : Stand p l e R s m args below meth c T locs cells slots) (hx : p.tables.exec = Jvm.exec) (hlk : meth.locks = false) {t : FieldType} (hret : meth.sig.returnType = some t) (ht : t = .boolean ∨ t = .byte ∨ t = .char ∨ t = .short) (hd : decode c.code pc = .ok (.ireturn, 1)) {z : Int32} (hc : cells ≤ kc) (hs : slots ≤ ks) (hQ : Q (some (.int (nar t z))) T.heap locs) : Wp p e s below Q kc ks (T.setTop (mkF m pc Ls (.int z :: rest))) :=
  Wp.done X hlk (fun h => by rw [hret] at h; cases h) (fun fs hr => retN X hx hret ht hd hr) hQ hc hs
theorem W.lret (X : Stand p l e R s m args below meth c T locs cells slots) (hx : p.tables.exec = Jvm.exec) (hlk : meth.locks = false) (hret : meth.sig.returnType = some .long) (hd : decode c.code pc = .ok (.lreturn, 1)) {z : Int64} (hc : cells ≤ kc) (hs : slots ≤ ks) (hQ : Q (some (.long z)) T.heap locs) : Wp p e s below Q kc ks (T.setTop (mkF m pc Ls (.long z :: rest))) :=
  Wp.done X hlk (fun h => by rw [hret] at h; cases h) (fun fs hr => retOut X hx hret rfl (Or.inr (Or.inl ⟨rfl, rfl, _, rfl⟩)) hd hr) hQ hc hs
theorem W.dret (X : Stand p l e R s m args below meth c T locs cells slots) (hx : p.tables.exec = Jvm.exec) (hlk : meth.locks = false) (hret : meth.sig.returnType = some .double) (hd : decode c.code pc = .ok (.dreturn, 1)) {z : UInt64} (hc : cells ≤ kc) (hs : slots ≤ ks) (hQ : Q (some (.double z)) T.heap locs) : Wp p e s below Q kc ks (T.setTop (mkF m pc Ls (.double z :: rest))) :=
  Wp.done X hlk (fun h => by rw [hret] at h; cases h) (fun fs hr => retOut X hx hret rfl (Or.inr (Or.inr (Or.inl ⟨rfl, rfl, _, rfl⟩))) hd hr) hQ hc hs
theorem W.aret (X : Stand p l e R s m args below meth c T locs cells slots) (hx : p.tables.exec = Jvm.exec) (hlk : meth.locks = false) {t : FieldType} (hret : meth.sig.returnType = some t) (ht : t.isReference = true) {w : Value} (hw : w.isRef = true) (hd : decode c.code pc = .ok (.areturn, 1)) (hc : cells ≤ kc) (hs : slots ≤ ks) (hQ : Q (some w) T.heap locs) : Wp p e s below Q kc ks (T.setTop (mkF m pc Ls (w :: rest))) :=
  Wp.done X hlk (fun h => by rw [hret] at h; cases h) (fun fs hr => retOut X hx hret (by rcases ref_cases hw with rfl | ⟨z, rfl⟩ <;> cases t <;> first | rfl | cases ht) (Or.inr (Or.inr (Or.inr (Or.inr ⟨rfl, ht, hw⟩)))) hd hr) hQ hc hs
theorem W.vret (X : Stand p l e R s m args below meth c T locs cells slots) (hx : p.tables.exec = Jvm.exec) (hlk : meth.locks = false) (hret : meth.sig.returnType = none) (hd : decode c.code pc = .ok (.return_, 1)) (hc : cells ≤ kc) (hs : slots ≤ ks) (hQ : Q none T.heap locs) : Wp p e s below Q kc ks (T.setTop (mkF m pc Ls [])) :=
  Wp.done X hlk (fun _ => rfl) (fun fs hr => X.returnOut hx hret hd hr) hQ hc hs
/-! plain steps -/
theorem W.iconst (X : Stand p l e R s m args below meth c T locs cells slots) (hx : p.tables.exec = Jvm.exec) {i : Int} (pc' : Nat) (v : Int32) (hd : decode c.code pc = .ok (.iconst i, 1)) (hv : Int32.ofInt i = v) (hp : pc + 1 = pc') (K : Wp p e s below Q kc ks (T.setTop (mkF m pc' Ls (.int v :: st)))) : Wp p e s below Q kc ks (T.setTop (mkF m pc Ls st)) := by
  subst hp hv; exact Wp.step (fun _ k => XS.iconst X.here hx rfl hd k) K
theorem W.bipush (X : Stand p l e R s m args below meth c T locs cells slots) (hx : p.tables.exec = Jvm.exec) {i : Int} (pc' : Nat) (v : Int32) (hd : decode c.code pc = .ok (.bipush i, 2)) (hv : (Int8.ofInt i).toInt32 = v) (hp : pc + 2 = pc') (K : Wp p e s below Q kc ks (T.setTop (mkF m pc' Ls (.int v :: st)))) : Wp p e s below Q kc ks (T.setTop (mkF m pc Ls st)) := by
  subst hp hv; exact Wp.step (fun _ k => XS.bipush X.here hx rfl hd k) K
theorem W.sipush (X : Stand p l e R s m args below meth c T locs cells slots) (hx : p.tables.exec = Jvm.exec) {i : Int} (pc' : Nat) (v : Int32) (hd : decode c.code pc = .ok (.sipush i, 3)) (hv : (Int16.ofInt i).toInt32 = v) (hp : pc + 3 = pc') (K : Wp p e s below Q kc ks (T.setTop (mkF m pc' Ls (.int v :: st)))) : Wp p e s below Q kc ks (T.setTop (mkF m pc Ls st)) := by
  subst hp hv; exact Wp.step (fun _ k => XS.sipush X.here hx rfl hd k) K
theorem W.lconst (X : Stand p l e R s m args below meth c T locs cells slots) (hx : p.tables.exec = Jvm.exec) {i : Fin 2} (pc' : Nat) (v : Int64) (hd : decode c.code pc = .ok (.lconst i, 1)) (hv : (Int64.ofNat i) = v) (hp : pc + 1 = pc') (K : Wp p e s below Q kc ks (T.setTop (mkF m pc' Ls (.long v :: st)))) : Wp p e s below Q kc ks (T.setTop (mkF m pc Ls st)) := by
  subst hp hv; exact Wp.step (fun _ k => XT.lconst X.here hx rfl hd k) K
theorem W.anull (X : Stand p l e R s m args below meth c T locs cells slots) (hx : p.tables.exec = Jvm.exec) (pc' : Nat) (hd : decode c.code pc = .ok (.aconst_null, 1)) (hp : pc + 1 = pc') (K : Wp p e s below Q kc ks (T.setTop (mkF m pc' Ls (.null :: st)))) : Wp p e s below Q kc ks (T.setTop (mkF m pc Ls st)) := by
  subst hp; exact Wp.step (fun _ k => XS.aconstNull X.here hx rfl hd k) K
theorem W.ldcI (X : Stand p l e R s m args below meth c T locs cells slots) (hx : p.tables.exec = Jvm.exec) (hZ : Z.Warmed39 s.vm) {own : String} {index : Nat} {v : Int32} (pc' : Nat) (hown : s.vm.findClass own = some m.cls) (w : (Jvm.Cond.constant own index v).before a0 Z = true) (hd : decode c.code pc = .ok (.ldc index, 2)) (hp : pc + 2 = pc') (K : Wp p e s below Q kc ks (T.setTop (mkF m pc' Ls (.int v :: st)))) : Wp p e s below Q kc ks (T.setTop (mkF m pc Ls st)) := by
  subst hp; exact Wp.step (fun t k => X.ldcInt hx hown (mvT hZ w) (g := mkF m pc Ls st) rfl hd t k) K
theorem W.ldcL (X : Stand p l e R s m args below meth c T locs cells slots) (hx : p.tables.exec = Jvm.exec) (hZ : Z.Warmed39 s.vm) {own : String} {index : Nat} {v : Int64} (pc' : Nat) (hown : s.vm.findClass own = some m.cls) (w : (Jvm.Cond.constantLong own index v).before a0 Z = true) (hd : decode c.code pc = .ok (.ldc2_w index, 3)) (hp : pc + 3 = pc') (K : Wp p e s below Q kc ks (T.setTop (mkF m pc' Ls (.long v :: st)))) : Wp p e s below Q kc ks (T.setTop (mkF m pc Ls st)) := by
  subst hp; exact Wp.step (fun t k => X.ldc2Long hx hown (mvT hZ w) (g := mkF m pc Ls st) rfl hd t k) K
theorem W.iloadN (X : Stand p l e R s m args below meth c T locs cells slots) (hx : p.tables.exec = Jvm.exec) {k : Fin 4} {x : Int32} (pc' : Nat) (hd : decode c.code pc = .ok (.iload_n k, 1)) (hl : Ls[k.val]? = some (.val (.int x))) (hp : pc + 1 = pc') (K : Wp p e s below Q kc ks (T.setTop (mkF m pc' Ls (.int x :: st)))) : Wp p e s below Q kc ks (T.setTop (mkF m pc Ls st)) := by
  subst hp; exact Wp.step (fun _ k => XS.iloadN X.here hx rfl hd hl k) K
theorem W.iload (X : Stand p l e R s m args below meth c T locs cells slots) (hx : p.tables.exec = Jvm.exec) {k : Nat} {x : Int32} (pc' : Nat) (hd : decode c.code pc = .ok (.iload k, 2)) (hl : Ls[k]? = some (.val (.int x))) (hp : pc + 2 = pc') (K : Wp p e s below Q kc ks (T.setTop (mkF m pc' Ls (.int x :: st)))) : Wp p e s below Q kc ks (T.setTop (mkF m pc Ls st)) := by
  subst hp; exact Wp.step (fun _ k => XS.iload X.here hx rfl hd hl k) K
theorem W.aloadN (X : Stand p l e R s m args below meth c T locs cells slots) (hx : p.tables.exec = Jvm.exec) {k : Fin 4} {x : Value} (pc' : Nat) (hd : decode c.code pc = .ok (.aload_n k, 1)) (hl : Ls[k.val]? = some (.val x)) (hr : x.isRef = true) (hp : pc + 1 = pc') (K : Wp p e s below Q kc ks (T.setTop (mkF m pc' Ls (x :: st)))) : Wp p e s below Q kc ks (T.setTop (mkF m pc Ls st)) := by
  subst hp; exact Wp.step (fun _ k => XS.aloadN X.here hx rfl hd hl hr k) K
theorem W.aload (X : Stand p l e R s m args below meth c T locs cells slots) (hx : p.tables.exec = Jvm.exec) {k : Nat} {x : Value} (pc' : Nat) (hd : decode c.code pc = .ok (.aload k, 2)) (hl : Ls[k]? = some (.val x)) (hr : x.isRef = true) (hp : pc + 2 = pc') (K : Wp p e s below Q kc ks (T.setTop (mkF m pc' Ls (x :: st)))) : Wp p e s below Q kc ks (T.setTop (mkF m pc Ls st)) := by
  subst hp; exact Wp.step (fun _ k => XS.aload X.here hx rfl hd hl hr k) K
theorem W.lloadN (X : Stand p l e R s m args below meth c T locs cells slots) (hx : p.tables.exec = Jvm.exec) {k : Fin 4} {x : Int64} (pc' : Nat) (hd : decode c.code pc = .ok (.lload_n k, 1)) (hl : Ls[k.val]? = some (.val (.long x))) (hp : pc + 1 = pc') (K : Wp p e s below Q kc ks (T.setTop (mkF m pc' Ls (.long x :: st)))) : Wp p e s below Q kc ks (T.setTop (mkF m pc Ls st)) := by
  subst hp; exact Wp.step (fun _ k => XS.lloadN X.here hx rfl hd hl k) K
theorem W.lload (X : Stand p l e R s m args below meth c T locs cells slots) (hx : p.tables.exec = Jvm.exec) {k : Nat} {x : Int64} (pc' : Nat) (hd : decode c.code pc = .ok (.lload k, 2)) (hl : Ls[k]? = some (.val (.long x))) (hp : pc + 2 = pc') (K : Wp p e s below Q kc ks (T.setTop (mkF m pc' Ls (.long x :: st)))) : Wp p e s below Q kc ks (T.setTop (mkF m pc Ls st)) := by
  subst hp; exact Wp.step (fun _ k => XS.lload X.here hx rfl hd hl k) K
theorem W.istoreN (X : Stand p l e R s m args below meth c T locs cells slots) (hx : p.tables.exec = Jvm.exec) {k : Fin 4} {x : Int32} (pc' : Nat) (l' : Array Slot) (hd : decode c.code pc = .ok (.istore_n k, 1)) (hl : storeLocals Ls k.val (.int x) = some l') (hp : pc + 1 = pc') (K : Wp p e s below Q kc ks (T.setTop (mkF m pc' l' st))) : Wp p e s below Q kc ks (T.setTop (mkF m pc Ls (.int x :: st))) := by
  subst hp; exact Wp.step (fun _ k => XS.istoreN X.here hx rfl hd rfl hl k) K
theorem W.istore (X : Stand p l e R s m args below meth c T locs cells slots) (hx : p.tables.exec = Jvm.exec) {k : Nat} {x : Int32} (pc' : Nat) (l' : Array Slot) (hd : decode c.code pc = .ok (.istore k, 2)) (hl : storeLocals Ls k (.int x) = some l') (hp : pc + 2 = pc') (K : Wp p e s below Q kc ks (T.setTop (mkF m pc' l' st))) : Wp p e s below Q kc ks (T.setTop (mkF m pc Ls (.int x :: st))) := by
  subst hp; exact Wp.step (fun _ k => XS.istore X.here hx rfl hd rfl hl k) K
theorem W.astoreN (X : Stand p l e R s m args below meth c T locs cells slots) (hx : p.tables.exec = Jvm.exec) {k : Fin 4} {x : Value} (pc' : Nat) (l' : Array Slot) (hd : decode c.code pc = .ok (.astore_n k, 1)) (hr : x.isRef = true) (hl : storeLocals Ls k.val x = some l') (hp : pc + 1 = pc') (K : Wp p e s below Q kc ks (T.setTop (mkF m pc' l' st))) : Wp p e s below Q kc ks (T.setTop (mkF m pc Ls (x :: st))) := by
  subst hp; exact Wp.step (fun _ k => XS.astoreN X.here hx rfl hd rfl hr hl k) K
theorem W.astore (X : Stand p l e R s m args below meth c T locs cells slots) (hx : p.tables.exec = Jvm.exec) {k : Nat} {x : Value} (pc' : Nat) (l' : Array Slot) (hd : decode c.code pc = .ok (.astore k, 2)) (hr : x.isRef = true) (hl : storeLocals Ls k x = some l') (hp : pc + 2 = pc') (K : Wp p e s below Q kc ks (T.setTop (mkF m pc' l' st))) : Wp p e s below Q kc ks (T.setTop (mkF m pc Ls (x :: st))) := by
  subst hp; exact Wp.step (fun _ k => XS.astore X.here hx rfl hd rfl hr hl k) K
theorem W.lstoreN (X : Stand p l e R s m args below meth c T locs cells slots) (hx : p.tables.exec = Jvm.exec) {k : Fin 4} {x : Int64} (pc' : Nat) (l' : Array Slot) (hd : decode c.code pc = .ok (.lstore_n k, 1)) (hl : storeLocals Ls k.val (.long x) = some l') (hp : pc + 1 = pc') (K : Wp p e s below Q kc ks (T.setTop (mkF m pc' l' st))) : Wp p e s below Q kc ks (T.setTop (mkF m pc Ls (.long x :: st))) := by
  subst hp; exact Wp.step (fun _ k => XS.lstoreN X.here hx rfl hd rfl hl k) K
theorem W.lstore (X : Stand p l e R s m args below meth c T locs cells slots) (hx : p.tables.exec = Jvm.exec) {k : Nat} {x : Int64} (pc' : Nat) (l' : Array Slot) (hd : decode c.code pc = .ok (.lstore k, 2)) (hl : storeLocals Ls k (.long x) = some l') (hp : pc + 2 = pc') (K : Wp p e s below Q kc ks (T.setTop (mkF m pc' l' st))) : Wp p e s below Q kc ks (T.setTop (mkF m pc Ls (.long x :: st))) := by
  subst hp; exact Wp.step (fun _ k => XS.lstore X.here hx rfl hd rfl hl k) K
theorem W.iinc (X : Stand p l e R s m args below meth c T locs cells slots) (hx : p.tables.exec = Jvm.exec) {k : Nat} {i : Int} {x : Int32} (pc' : Nat) (v : Int32) (l' : Array Slot) (hd : decode c.code pc = .ok (.iinc k i, 3)) (hv : Int32.ofInt i = v) (hl : Ls[k]? = some (.val (.int x))) (hl' : storeLocals Ls k (.int (x + v)) = some l') (hp : pc + 3 = pc') (K : Wp p e s below Q kc ks (T.setTop (mkF m pc' l' st))) : Wp p e s below Q kc ks (T.setTop (mkF m pc Ls st)) := by
  subst hp hv; exact Wp.step (fun _ k => XS.iinc X.here hx rfl hd hl hl' k) K
theorem W.iadd (X : Stand p l e R s m args below meth c T locs cells slots) (hx : p.tables.exec = Jvm.exec) {x y : Int32} (pc' : Nat) (hd : decode c.code pc = .ok (.iadd, 1)) (hp : pc + 1 = pc') (K : Wp p e s below Q kc ks (T.setTop (mkF m pc' Ls (.int (x + y) :: st)))) : Wp p e s below Q kc ks (T.setTop (mkF m pc Ls (.int y :: .int x :: st))) := by
  subst hp; exact Wp.step (fun _ k => XS.iadd X.here hx rfl hd rfl k) K
theorem W.ladd (X : Stand p l e R s m args below meth c T locs cells slots) (hx : p.tables.exec = Jvm.exec) {x y : Int64} (pc' : Nat) (hd : decode c.code pc = .ok (.ladd, 1)) (hp : pc + 1 = pc') (K : Wp p e s below Q kc ks (T.setTop (mkF m pc' Ls (.long (x + y) :: st)))) : Wp p e s below Q kc ks (T.setTop (mkF m pc Ls (.long y :: .long x :: st))) := by
  subst hp; exact Wp.step (fun _ k => XS.ladd X.here hx rfl hd rfl k) K
theorem W.isub (X : Stand p l e R s m args below meth c T locs cells slots) (hx : p.tables.exec = Jvm.exec) {x y : Int32} (pc' : Nat) (hd : decode c.code pc = .ok (.isub, 1)) (hp : pc + 1 = pc') (K : Wp p e s below Q kc ks (T.setTop (mkF m pc' Ls (.int (x - y) :: st)))) : Wp p e s below Q kc ks (T.setTop (mkF m pc Ls (.int y :: .int x :: st))) := by
  subst hp; exact Wp.step (fun _ k => XS.isub X.here hx rfl hd rfl k) K
theorem W.lsub (X : Stand p l e R s m args below meth c T locs cells slots) (hx : p.tables.exec = Jvm.exec) {x y : Int64} (pc' : Nat) (hd : decode c.code pc = .ok (.lsub, 1)) (hp : pc + 1 = pc') (K : Wp p e s below Q kc ks (T.setTop (mkF m pc' Ls (.long (x - y) :: st)))) : Wp p e s below Q kc ks (T.setTop (mkF m pc Ls (.long y :: .long x :: st))) := by
  subst hp; exact Wp.step (fun _ k => XS.lsub X.here hx rfl hd rfl k) K
theorem W.imul (X : Stand p l e R s m args below meth c T locs cells slots) (hx : p.tables.exec = Jvm.exec) {x y : Int32} (pc' : Nat) (hd : decode c.code pc = .ok (.imul, 1)) (hp : pc + 1 = pc') (K : Wp p e s below Q kc ks (T.setTop (mkF m pc' Ls (.int (x * y) :: st)))) : Wp p e s below Q kc ks (T.setTop (mkF m pc Ls (.int y :: .int x :: st))) := by
  subst hp; exact Wp.step (fun _ k => XS.imul X.here hx rfl hd rfl k) K
theorem W.lmul (X : Stand p l e R s m args below meth c T locs cells slots) (hx : p.tables.exec = Jvm.exec) {x y : Int64} (pc' : Nat) (hd : decode c.code pc = .ok (.lmul, 1)) (hp : pc + 1 = pc') (K : Wp p e s below Q kc ks (T.setTop (mkF m pc' Ls (.long (x * y) :: st)))) : Wp p e s below Q kc ks (T.setTop (mkF m pc Ls (.long y :: .long x :: st))) := by
  subst hp; exact Wp.step (fun _ k => XS.lmul X.here hx rfl hd rfl k) K
theorem W.iand (X : Stand p l e R s m args below meth c T locs cells slots) (hx : p.tables.exec = Jvm.exec) {x y : Int32} (pc' : Nat) (hd : decode c.code pc = .ok (.iand, 1)) (hp : pc + 1 = pc') (K : Wp p e s below Q kc ks (T.setTop (mkF m pc' Ls (.int (x &&& y) :: st)))) : Wp p e s below Q kc ks (T.setTop (mkF m pc Ls (.int y :: .int x :: st))) := by
  subst hp; exact Wp.step (fun _ k => XS.iand X.here hx rfl hd rfl k) K
theorem W.land (X : Stand p l e R s m args below meth c T locs cells slots) (hx : p.tables.exec = Jvm.exec) {x y : Int64} (pc' : Nat) (hd : decode c.code pc = .ok (.land, 1)) (hp : pc + 1 = pc') (K : Wp p e s below Q kc ks (T.setTop (mkF m pc' Ls (.long (x &&& y) :: st)))) : Wp p e s below Q kc ks (T.setTop (mkF m pc Ls (.long y :: .long x :: st))) := by
  subst hp; exact Wp.step (fun _ k => XS.land X.here hx rfl hd rfl k) K
theorem W.ior (X : Stand p l e R s m args below meth c T locs cells slots) (hx : p.tables.exec = Jvm.exec) {x y : Int32} (pc' : Nat) (hd : decode c.code pc = .ok (.ior, 1)) (hp : pc + 1 = pc') (K : Wp p e s below Q kc ks (T.setTop (mkF m pc' Ls (.int (x ||| y) :: st)))) : Wp p e s below Q kc ks (T.setTop (mkF m pc Ls (.int y :: .int x :: st))) := by
  subst hp; exact Wp.step (fun _ k => XS.ior X.here hx rfl hd rfl k) K
theorem W.lor (X : Stand p l e R s m args below meth c T locs cells slots) (hx : p.tables.exec = Jvm.exec) {x y : Int64} (pc' : Nat) (hd : decode c.code pc = .ok (.lor, 1)) (hp : pc + 1 = pc') (K : Wp p e s below Q kc ks (T.setTop (mkF m pc' Ls (.long (x ||| y) :: st)))) : Wp p e s below Q kc ks (T.setTop (mkF m pc Ls (.long y :: .long x :: st))) := by
  subst hp; exact Wp.step (fun _ k => XS.lor X.here hx rfl hd rfl k) K
theorem W.ixor (X : Stand p l e R s m args below meth c T locs cells slots) (hx : p.tables.exec = Jvm.exec) {x y : Int32} (pc' : Nat) (hd : decode c.code pc = .ok (.ixor, 1)) (hp : pc + 1 = pc') (K : Wp p e s below Q kc ks (T.setTop (mkF m pc' Ls (.int (x ^^^ y) :: st)))) : Wp p e s below Q kc ks (T.setTop (mkF m pc Ls (.int y :: .int x :: st))) := by
  subst hp; exact Wp.step (fun _ k => XS.ixor X.here hx rfl hd rfl k) K
theorem W.lxor (X : Stand p l e R s m args below meth c T locs cells slots) (hx : p.tables.exec = Jvm.exec) {x y : Int64} (pc' : Nat) (hd : decode c.code pc = .ok (.lxor, 1)) (hp : pc + 1 = pc') (K : Wp p e s below Q kc ks (T.setTop (mkF m pc' Ls (.long (x ^^^ y) :: st)))) : Wp p e s below Q kc ks (T.setTop (mkF m pc Ls (.long y :: .long x :: st))) := by
  subst hp; exact Wp.step (fun _ k => XS.lxor X.here hx rfl hd rfl k) K
theorem W.ishl (X : Stand p l e R s m args below meth c T locs cells slots) (hx : p.tables.exec = Jvm.exec) {x y : Int32} (pc' : Nat) (hd : decode c.code pc = .ok (.ishl, 1)) (hp : pc + 1 = pc') (K : Wp p e s below Q kc ks (T.setTop (mkF m pc' Ls (.int (x <<< (y &&& 31)) :: st)))) : Wp p e s below Q kc ks (T.setTop (mkF m pc Ls (.int y :: .int x :: st))) := by
  subst hp; exact Wp.step (fun _ k => XS.ishl X.here hx rfl hd rfl k) K
theorem W.ishr (X : Stand p l e R s m args below meth c T locs cells slots) (hx : p.tables.exec = Jvm.exec) {x y : Int32} (pc' : Nat) (hd : decode c.code pc = .ok (.ishr, 1)) (hp : pc + 1 = pc') (K : Wp p e s below Q kc ks (T.setTop (mkF m pc' Ls (.int (x >>> (y &&& 31)) :: st)))) : Wp p e s below Q kc ks (T.setTop (mkF m pc Ls (.int y :: .int x :: st))) := by
  subst hp; exact Wp.step (fun _ k => XS.ishr X.here hx rfl hd rfl k) K
theorem W.iushr (X : Stand p l e R s m args below meth c T locs cells slots) (hx : p.tables.exec = Jvm.exec) {x y : Int32} (pc' : Nat) (hd : decode c.code pc = .ok (.iushr, 1)) (hp : pc + 1 = pc') (K : Wp p e s below Q kc ks (T.setTop (mkF m pc' Ls (.int ((x.toUInt32 >>> (y &&& 31).toUInt32).toInt32) :: st)))) : Wp p e s below Q kc ks (T.setTop (mkF m pc Ls (.int y :: .int x :: st))) := by
  subst hp; exact Wp.step (fun _ k => XS.iushr X.here hx rfl hd rfl k) K
theorem W.lshl (X : Stand p l e R s m args below meth c T locs cells slots) (hx : p.tables.exec = Jvm.exec) {x : Int64} {y : Int32} (pc' : Nat) (hd : decode c.code pc = .ok (.lshl, 1)) (hp : pc + 1 = pc') (K : Wp p e s below Q kc ks (T.setTop (mkF m pc' Ls (.long (x <<< (y &&& 0x3f).toInt64) :: st)))) : Wp p e s below Q kc ks (T.setTop (mkF m pc Ls (.int y :: .long x :: st))) := by
  subst hp; exact Wp.step (fun _ k => XS.lshl X.here hx rfl hd rfl k) K
theorem W.lshr (X : Stand p l e R s m args below meth c T locs cells slots) (hx : p.tables.exec = Jvm.exec) {x : Int64} {y : Int32} (pc' : Nat) (hd : decode c.code pc = .ok (.lshr, 1)) (hp : pc + 1 = pc') (K : Wp p e s below Q kc ks (T.setTop (mkF m pc' Ls (.long (x >>> (y &&& 0x3f).toInt64) :: st)))) : Wp p e s below Q kc ks (T.setTop (mkF m pc Ls (.int y :: .long x :: st))) := by
  subst hp; exact Wp.step (fun _ k => XS.lshr X.here hx rfl hd rfl k) K
theorem W.lushr (X : Stand p l e R s m args below meth c T locs cells slots) (hx : p.tables.exec = Jvm.exec) {x : Int64} {y : Int32} (pc' : Nat) (hd : decode c.code pc = .ok (.lushr, 1)) (hp : pc + 1 = pc') (K : Wp p e s below Q kc ks (T.setTop (mkF m pc' Ls (.long ((x.toUInt64 >>> (y &&& 0x3f).toInt64.toUInt64).toInt64) :: st)))) : Wp p e s below Q kc ks (T.setTop (mkF m pc Ls (.int y :: .long x :: st))) := by
  subst hp; exact Wp.step (fun _ k => XS.lushr X.here hx rfl hd rfl k) K
theorem W.lcmp (X : Stand p l e R s m args below meth c T locs cells slots) (hx : p.tables.exec = Jvm.exec) {x y : Int64} (pc' : Nat) (hd : decode c.code pc = .ok (.lcmp, 1)) (hp : pc + 1 = pc') (K : Wp p e s below Q kc ks (T.setTop (mkF m pc' Ls (.int (lcmpW x y) :: st)))) : Wp p e s below Q kc ks (T.setTop (mkF m pc Ls (.long y :: .long x :: st))) := by
  subst hp; exact Wp.step (fun _ k => XS.lcmp X.here hx rfl hd rfl k) K
theorem W.irem (X : Stand p l e R s m args below meth c T locs cells slots) (hx : p.tables.exec = Jvm.exec) {x y : Int32} (pc' : Nat) (hd : decode c.code pc = .ok (.irem, 1)) (hy : y ≠ 0) (hp : pc + 1 = pc') (K : Wp p e s below Q kc ks (T.setTop (mkF m pc' Ls (.int (x % y) :: st)))) : Wp p e s below Q kc ks (T.setTop (mkF m pc Ls (.int y :: .int x :: st))) := by
  subst hp; exact Wp.step (fun _ k => iremM X hx (g := mkF m pc Ls (.int y :: .int x :: st)) rfl hd rfl hy k) K
theorem W.idiv (X : Stand p l e R s m args below meth c T locs cells slots) (hx : p.tables.exec = Jvm.exec) {x y : Int32} (pc' : Nat) (hd : decode c.code pc = .ok (.idiv, 1)) (hy : y ≠ 0) (hp : pc + 1 = pc') (K : Wp p e s below Q kc ks (T.setTop (mkF m pc' Ls (.int (x / y) :: st)))) : Wp p e s below Q kc ks (T.setTop (mkF m pc Ls (.int y :: .int x :: st))) := by
  subst hp; exact Wp.step (fun _ k => XS.idiv X.here hx rfl hd rfl hy k) K
theorem W.ineg (X : Stand p l e R s m args below meth c T locs cells slots) (hx : p.tables.exec = Jvm.exec) {x : Int32} (pc' : Nat) (hd : decode c.code pc = .ok (.ineg, 1)) (hp : pc + 1 = pc') (K : Wp p e s below Q kc ks (T.setTop (mkF m pc' Ls (.int (-x) :: st)))) : Wp p e s below Q kc ks (T.setTop (mkF m pc Ls (.int x :: st))) := by
  subst hp; exact Wp.step (fun _ k => XS.ineg X.here hx rfl hd rfl k) K
theorem W.lneg (X : Stand p l e R s m args below meth c T locs cells slots) (hx : p.tables.exec = Jvm.exec) {x : Int64} (pc' : Nat) (hd : decode c.code pc = .ok (.lneg, 1)) (hp : pc + 1 = pc') (K : Wp p e s below Q kc ks (T.setTop (mkF m pc' Ls (.long (-x) :: st)))) : Wp p e s below Q kc ks (T.setTop (mkF m pc Ls (.long x :: st))) := by
  subst hp; exact Wp.step (fun _ k => XS.lneg X.here hx rfl hd rfl k) K
theorem W.i2b (X : Stand p l e R s m args below meth c T locs cells slots) (hx : p.tables.exec = Jvm.exec) {x : Int32} (pc' : Nat) (hd : decode c.code pc = .ok (.i2b, 1)) (hp : pc + 1 = pc') (K : Wp p e s below Q kc ks (T.setTop (mkF m pc' Ls (.int x.toInt8.toInt32 :: st)))) : Wp p e s below Q kc ks (T.setTop (mkF m pc Ls (.int x :: st))) := by
  subst hp; exact Wp.step (fun _ k => XS.i2b X.here hx rfl hd rfl k) K
theorem W.i2c (X : Stand p l e R s m args below meth c T locs cells slots) (hx : p.tables.exec = Jvm.exec) {x : Int32} (pc' : Nat) (hd : decode c.code pc = .ok (.i2c, 1)) (hp : pc + 1 = pc') (K : Wp p e s below Q kc ks (T.setTop (mkF m pc' Ls (.int x.toUInt32.toUInt16.toUInt32.toInt32 :: st)))) : Wp p e s below Q kc ks (T.setTop (mkF m pc Ls (.int x :: st))) := by
  subst hp; exact Wp.step (fun _ k => XS.i2c X.here hx rfl hd rfl k) K
theorem W.i2s (X : Stand p l e R s m args below meth c T locs cells slots) (hx : p.tables.exec = Jvm.exec) {x : Int32} (pc' : Nat) (hd : decode c.code pc = .ok (.i2s, 1)) (hp : pc + 1 = pc') (K : Wp p e s below Q kc ks (T.setTop (mkF m pc' Ls (.int x.toInt16.toInt32 :: st)))) : Wp p e s below Q kc ks (T.setTop (mkF m pc Ls (.int x :: st))) := by
  subst hp; exact Wp.step (fun _ k => XS.i2s X.here hx rfl hd rfl k) K
theorem W.i2l (X : Stand p l e R s m args below meth c T locs cells slots) (hx : p.tables.exec = Jvm.exec) {x : Int32} (pc' : Nat) (hd : decode c.code pc = .ok (.i2l, 1)) (hp : pc + 1 = pc') (K : Wp p e s below Q kc ks (T.setTop (mkF m pc' Ls (.long x.toInt64 :: st)))) : Wp p e s below Q kc ks (T.setTop (mkF m pc Ls (.int x :: st))) := by
  subst hp; exact Wp.step (fun _ k => XS.i2l X.here hx rfl hd rfl k) K
theorem W.l2i (X : Stand p l e R s m args below meth c T locs cells slots) (hx : p.tables.exec = Jvm.exec) {x : Int64} (pc' : Nat) (hd : decode c.code pc = .ok (.l2i, 1)) (hp : pc + 1 = pc') (K : Wp p e s below Q kc ks (T.setTop (mkF m pc' Ls (.int x.toInt32 :: st)))) : Wp p e s below Q kc ks (T.setTop (mkF m pc Ls (.long x :: st))) := by
  subst hp; exact Wp.step (fun _ k => XS.l2i X.here hx rfl hd rfl k) K
theorem W.dup (X : Stand p l e R s m args below meth c T locs cells slots) (hx : p.tables.exec = Jvm.exec) {x : Value} (pc' : Nat) (hd : decode c.code pc = .ok (.dup, 1)) (hc : x.category = 1) (hp : pc + 1 = pc') (K : Wp p e s below Q kc ks (T.setTop (mkF m pc' Ls (x :: x :: st)))) : Wp p e s below Q kc ks (T.setTop (mkF m pc Ls (x :: st))) := by
  subst hp; exact Wp.step (fun _ k => XS.dup X.here hx rfl hd rfl hc k) K
theorem W.pop (X : Stand p l e R s m args below meth c T locs cells slots) (hx : p.tables.exec = Jvm.exec) {x : Value} (pc' : Nat) (hd : decode c.code pc = .ok (.pop, 1)) (hc : x.category = 1) (hp : pc + 1 = pc') (K : Wp p e s below Q kc ks (T.setTop (mkF m pc' Ls st))) : Wp p e s below Q kc ks (T.setTop (mkF m pc Ls (x :: st))) := by
  subst hp; exact Wp.step (fun _ k => XS.pop X.here hx rfl hd rfl hc k) K
theorem W.dup2 (X : Stand p l e R s m args below meth c T locs cells slots) (hx : p.tables.exec = Jvm.exec) {x y : Value} (pc' : Nat) (hd : decode c.code pc = .ok (.dup2, 1)) (hc : x.category = 1) (hc' : y.category = 1) (hp : pc + 1 = pc') (K : Wp p e s below Q kc ks (T.setTop (mkF m pc' Ls (x :: y :: x :: y :: st)))) : Wp p e s below Q kc ks (T.setTop (mkF m pc Ls (x :: y :: st))) := by
  subst hp; exact Wp.step (fun _ k => XT.dup2 X.here hx rfl hd rfl hc hc' k) K
theorem W.dupX1 (X : Stand p l e R s m args below meth c T locs cells slots) (hx : p.tables.exec = Jvm.exec) {x y : Value} (pc' : Nat) (hd : decode c.code pc = .ok (.dup_x1, 1)) (hc : x.category = 1) (hc' : y.category = 1) (hp : pc + 1 = pc') (K : Wp p e s below Q kc ks (T.setTop (mkF m pc' Ls (x :: y :: x :: st)))) : Wp p e s below Q kc ks (T.setTop (mkF m pc Ls (x :: y :: st))) := by
  subst hp; exact Wp.step (fun _ k => XS.dupX1 X.here hx rfl hd rfl hc hc' k) K
theorem W.goto (X : Stand p l e R s m args below meth c T locs cells slots) (hx : p.tables.exec = Jvm.exec) {o : Int} (pc' : Nat) (hd : decode c.code pc = .ok (.goto o, 3)) (ho : 0 ≤ (pc : Int) + o) (hp : ((pc : Int) + o).toNat = pc') (K : Wp p e s below Q kc ks (T.setTop (mkF m pc' Ls st))) : Wp p e s below Q kc ks (T.setTop (mkF m pc Ls st)) :=
  Wp.step (fun _ k => XS.goto X.here hx rfl rfl hd ho hp k) K
theorem W.icmp (X : Stand p l e R s m args below meth c T locs cells slots) (hx : p.tables.exec = Jvm.exec) {cd : ClassFile.Cond} {o : Int} {x y : Int32} (pcT pcF : Nat) (hd : decode c.code pc = .ok (.if_icmp cd o, 3)) (ho : 0 ≤ (pc : Int) + o) (hp : ((pc : Int) + o).toNat = pcT) (hq : pc + 3 = pcF) (KT : if_icmp.holds cd x y = true → Wp p e s below Q kc ks (T.setTop (mkF m pcT Ls st))) (KF : if_icmp.holds cd x y = false → Wp p e s below Q kc ks (T.setTop (mkF m pcF Ls st))) : Wp p e s below Q kc ks (T.setTop (mkF m pc Ls (.int y :: .int x :: st))) := by
  subst hq
  cases hh : if_icmp.holds cd x y
  · exact Wp.step (fun _ k => XS.icmpNo X.here hx rfl hd rfl hh k) (KF hh)
  · exact Wp.step (fun _ k => XS.icmpYes X.here hx rfl rfl hd rfl hh ho hp k) (KT hh)
theorem W.ifc (X : Stand p l e R s m args below meth c T locs cells slots) (hx : p.tables.exec = Jvm.exec) {cd : ClassFile.Cond} {o : Int} {x : Int32} (pcT pcF : Nat) (hd : decode c.code pc = .ok (.ifCond cd o, 3)) (ho : 0 ≤ (pc : Int) + o) (hp : ((pc : Int) + o).toNat = pcT) (hq : pc + 3 = pcF) (KT : if_icmp.holds cd x 0 = true → Wp p e s below Q kc ks (T.setTop (mkF m pcT Ls st))) (KF : if_icmp.holds cd x 0 = false → Wp p e s below Q kc ks (T.setTop (mkF m pcF Ls st))) : Wp p e s below Q kc ks (T.setTop (mkF m pc Ls (.int x :: st))) := by
  subst hq
  rw [← if0] at KT KF
  cases hh : ifCond.holds cd x
  · exact Wp.step (fun _ k => XS.ifNo X.here hx rfl hd rfl hh k) (KF hh)
  · exact Wp.step (fun _ k => XS.ifYes X.here hx rfl rfl hd rfl hh ho hp k) (KT hh)
theorem W.icmpEq (X : Stand p l e R s m args below meth c T locs cells slots) (hx : p.tables.exec = Jvm.exec) {o : Int} {x y : Int32} (pcT pcF : Nat) (hd : decode c.code pc = .ok (.if_icmp .eq o, 3)) (ho : 0 ≤ (pc : Int) + o) (hp : ((pc : Int) + o).toNat = pcT) (hq : pc + 3 = pcF) (KT : x = y → Wp p e s below Q kc ks (T.setTop (mkF m pcT Ls st))) (KF : ¬ x = y → Wp p e s below Q kc ks (T.setTop (mkF m pcF Ls st))) : Wp p e s below Q kc ks (T.setTop (mkF m pc Ls (.int y :: .int x :: st))) :=
  W.icmp X hx pcT pcF hd ho hp hq (fun hh => KT (Decidable.byContradiction fun q => by rw [(feq q).1] at hh; cases hh)) (fun hh => KF (fun q => by rw [(teq q).1] at hh; cases hh))
theorem W.ifEq (X : Stand p l e R s m args below meth c T locs cells slots) (hx : p.tables.exec = Jvm.exec) {o : Int} {x : Int32} (pcT pcF : Nat) (hd : decode c.code pc = .ok (.ifCond .eq o, 3)) (ho : 0 ≤ (pc : Int) + o) (hp : ((pc : Int) + o).toNat = pcT) (hq : pc + 3 = pcF) (KT : x = 0 → Wp p e s below Q kc ks (T.setTop (mkF m pcT Ls st))) (KF : ¬ x = 0 → Wp p e s below Q kc ks (T.setTop (mkF m pcF Ls st))) : Wp p e s below Q kc ks (T.setTop (mkF m pc Ls (.int x :: st))) :=
  W.ifc X hx pcT pcF hd ho hp hq (fun hh => KT (Decidable.byContradiction fun q => by rw [(feq q).1] at hh; cases hh)) (fun hh => KF (fun q => by rw [(teq q).1] at hh; cases hh))
theorem W.icmpNe (X : Stand p l e R s m args below meth c T locs cells slots) (hx : p.tables.exec = Jvm.exec) {o : Int} {x y : Int32} (pcT pcF : Nat) (hd : decode c.code pc = .ok (.if_icmp .ne o, 3)) (ho : 0 ≤ (pc : Int) + o) (hp : ((pc : Int) + o).toNat = pcT) (hq : pc + 3 = pcF) (KT : ¬ x = y → Wp p e s below Q kc ks (T.setTop (mkF m pcT Ls st))) (KF : x = y → Wp p e s below Q kc ks (T.setTop (mkF m pcF Ls st))) : Wp p e s below Q kc ks (T.setTop (mkF m pc Ls (.int y :: .int x :: st))) :=
  W.icmp X hx pcT pcF hd ho hp hq (fun hh => KT (fun q => by rw [(teq q).2] at hh; cases hh)) (fun hh => KF (Decidable.byContradiction fun q => by rw [(feq q).2] at hh; cases hh))
theorem W.ifNe (X : Stand p l e R s m args below meth c T locs cells slots) (hx : p.tables.exec = Jvm.exec) {o : Int} {x : Int32} (pcT pcF : Nat) (hd : decode c.code pc = .ok (.ifCond .ne o, 3)) (ho : 0 ≤ (pc : Int) + o) (hp : ((pc : Int) + o).toNat = pcT) (hq : pc + 3 = pcF) (KT : ¬ x = 0 → Wp p e s below Q kc ks (T.setTop (mkF m pcT Ls st))) (KF : x = 0 → Wp p e s below Q kc ks (T.setTop (mkF m pcF Ls st))) : Wp p e s below Q kc ks (T.setTop (mkF m pc Ls (.int x :: st))) :=
  W.ifc X hx pcT pcF hd ho hp hq (fun hh => KT (fun q => by rw [(teq q).2] at hh; cases hh)) (fun hh => KF (Decidable.byContradiction fun q => by rw [(feq q).2] at hh; cases hh))
theorem W.icmpLt (X : Stand p l e R s m args below meth c T locs cells slots) (hx : p.tables.exec = Jvm.exec) {o : Int} {x y : Int32} (pcT pcF : Nat) (hd : decode c.code pc = .ok (.if_icmp .lt o, 3)) (ho : 0 ≤ (pc : Int) + o) (hp : ((pc : Int) + o).toNat = pcT) (hq : pc + 3 = pcF) (KT : x < y → Wp p e s below Q kc ks (T.setTop (mkF m pcT Ls st))) (KF : ¬ x < y → Wp p e s below Q kc ks (T.setTop (mkF m pcF Ls st))) : Wp p e s below Q kc ks (T.setTop (mkF m pc Ls (.int y :: .int x :: st))) :=
  W.icmp X hx pcT pcF hd ho hp hq (fun hh => KT (Decidable.byContradiction fun q => by rw [(flt q).1] at hh; cases hh)) (fun hh => KF (fun q => by rw [(tlt q).1] at hh; cases hh))
theorem W.ifLt (X : Stand p l e R s m args below meth c T locs cells slots) (hx : p.tables.exec = Jvm.exec) {o : Int} {x : Int32} (pcT pcF : Nat) (hd : decode c.code pc = .ok (.ifCond .lt o, 3)) (ho : 0 ≤ (pc : Int) + o) (hp : ((pc : Int) + o).toNat = pcT) (hq : pc + 3 = pcF) (KT : x < 0 → Wp p e s below Q kc ks (T.setTop (mkF m pcT Ls st))) (KF : ¬ x < 0 → Wp p e s below Q kc ks (T.setTop (mkF m pcF Ls st))) : Wp p e s below Q kc ks (T.setTop (mkF m pc Ls (.int x :: st))) :=
  W.ifc X hx pcT pcF hd ho hp hq (fun hh => KT (Decidable.byContradiction fun q => by rw [(flt q).1] at hh; cases hh)) (fun hh => KF (fun q => by rw [(tlt q).1] at hh; cases hh))
theorem W.icmpGe (X : Stand p l e R s m args below meth c T locs cells slots) (hx : p.tables.exec = Jvm.exec) {o : Int} {x y : Int32} (pcT pcF : Nat) (hd : decode c.code pc = .ok (.if_icmp .ge o, 3)) (ho : 0 ≤ (pc : Int) + o) (hp : ((pc : Int) + o).toNat = pcT) (hq : pc + 3 = pcF) (KT : ¬ x < y → Wp p e s below Q kc ks (T.setTop (mkF m pcT Ls st))) (KF : x < y → Wp p e s below Q kc ks (T.setTop (mkF m pcF Ls st))) : Wp p e s below Q kc ks (T.setTop (mkF m pc Ls (.int y :: .int x :: st))) :=
  W.icmp X hx pcT pcF hd ho hp hq (fun hh => KT (fun q => by rw [(tlt q).2.1] at hh; cases hh)) (fun hh => KF (Decidable.byContradiction fun q => by rw [(flt q).2.1] at hh; cases hh))
theorem W.ifGe (X : Stand p l e R s m args below meth c T locs cells slots) (hx : p.tables.exec = Jvm.exec) {o : Int} {x : Int32} (pcT pcF : Nat) (hd : decode c.code pc = .ok (.ifCond .ge o, 3)) (ho : 0 ≤ (pc : Int) + o) (hp : ((pc : Int) + o).toNat = pcT) (hq : pc + 3 = pcF) (KT : ¬ x < 0 → Wp p e s below Q kc ks (T.setTop (mkF m pcT Ls st))) (KF : x < 0 → Wp p e s below Q kc ks (T.setTop (mkF m pcF Ls st))) : Wp p e s below Q kc ks (T.setTop (mkF m pc Ls (.int x :: st))) :=
  W.ifc X hx pcT pcF hd ho hp hq (fun hh => KT (fun q => by rw [(tlt q).2.1] at hh; cases hh)) (fun hh => KF (Decidable.byContradiction fun q => by rw [(flt q).2.1] at hh; cases hh))
theorem W.icmpGt (X : Stand p l e R s m args below meth c T locs cells slots) (hx : p.tables.exec = Jvm.exec) {o : Int} {x y : Int32} (pcT pcF : Nat) (hd : decode c.code pc = .ok (.if_icmp .gt o, 3)) (ho : 0 ≤ (pc : Int) + o) (hp : ((pc : Int) + o).toNat = pcT) (hq : pc + 3 = pcF) (KT : y < x → Wp p e s below Q kc ks (T.setTop (mkF m pcT Ls st))) (KF : ¬ y < x → Wp p e s below Q kc ks (T.setTop (mkF m pcF Ls st))) : Wp p e s below Q kc ks (T.setTop (mkF m pc Ls (.int y :: .int x :: st))) :=
  W.icmp X hx pcT pcF hd ho hp hq (fun hh => KT (Decidable.byContradiction fun q => by rw [(flt q).2.2.1] at hh; cases hh)) (fun hh => KF (fun q => by rw [(tlt q).2.2.1] at hh; cases hh))
theorem W.ifGt (X : Stand p l e R s m args below meth c T locs cells slots) (hx : p.tables.exec = Jvm.exec) {o : Int} {x : Int32} (pcT pcF : Nat) (hd : decode c.code pc = .ok (.ifCond .gt o, 3)) (ho : 0 ≤ (pc : Int) + o) (hp : ((pc : Int) + o).toNat = pcT) (hq : pc + 3 = pcF) (KT : 0 < x → Wp p e s below Q kc ks (T.setTop (mkF m pcT Ls st))) (KF : ¬ 0 < x → Wp p e s below Q kc ks (T.setTop (mkF m pcF Ls st))) : Wp p e s below Q kc ks (T.setTop (mkF m pc Ls (.int x :: st))) :=
  W.ifc X hx pcT pcF hd ho hp hq (fun hh => KT (Decidable.byContradiction fun q => by rw [(flt q).2.2.1] at hh; cases hh)) (fun hh => KF (fun q => by rw [(tlt q).2.2.1] at hh; cases hh))
theorem W.icmpLe (X : Stand p l e R s m args below meth c T locs cells slots) (hx : p.tables.exec = Jvm.exec) {o : Int} {x y : Int32} (pcT pcF : Nat) (hd : decode c.code pc = .ok (.if_icmp .le o, 3)) (ho : 0 ≤ (pc : Int) + o) (hp : ((pc : Int) + o).toNat = pcT) (hq : pc + 3 = pcF) (KT : ¬ y < x → Wp p e s below Q kc ks (T.setTop (mkF m pcT Ls st))) (KF : y < x → Wp p e s below Q kc ks (T.setTop (mkF m pcF Ls st))) : Wp p e s below Q kc ks (T.setTop (mkF m pc Ls (.int y :: .int x :: st))) :=
  W.icmp X hx pcT pcF hd ho hp hq (fun hh => KT (fun q => by rw [(tlt q).2.2.2] at hh; cases hh)) (fun hh => KF (Decidable.byContradiction fun q => by rw [(flt q).2.2.2] at hh; cases hh))
theorem W.ifLe (X : Stand p l e R s m args below meth c T locs cells slots) (hx : p.tables.exec = Jvm.exec) {o : Int} {x : Int32} (pcT pcF : Nat) (hd : decode c.code pc = .ok (.ifCond .le o, 3)) (ho : 0 ≤ (pc : Int) + o) (hp : ((pc : Int) + o).toNat = pcT) (hq : pc + 3 = pcF) (KT : ¬ 0 < x → Wp p e s below Q kc ks (T.setTop (mkF m pcT Ls st))) (KF : 0 < x → Wp p e s below Q kc ks (T.setTop (mkF m pcF Ls st))) : Wp p e s below Q kc ks (T.setTop (mkF m pc Ls (.int x :: st))) :=
  W.ifc X hx pcT pcF hd ho hp hq (fun hh => KT (fun q => by rw [(tlt q).2.2.2] at hh; cases hh)) (fun hh => KF (Decidable.byContradiction fun q => by rw [(flt q).2.2.2] at hh; cases hh))
theorem W.lifEq (X : Stand p l e R s m args below meth c T locs cells slots) (hx : p.tables.exec = Jvm.exec) {o : Int} {x y : Int64} (pcT pcF : Nat) (hd : decode c.code pc = .ok (.ifCond .eq o, 3)) (ho : 0 ≤ (pc : Int) + o) (hp : ((pc : Int) + o).toNat = pcT) (hq : pc + 3 = pcF) (KT : x = y → Wp p e s below Q kc ks (T.setTop (mkF m pcT Ls st))) (KF : ¬ x = y → Wp p e s below Q kc ks (T.setTop (mkF m pcF Ls st))) : Wp p e s below Q kc ks (T.setTop (mkF m pc Ls (.int (lcmpW x y) :: st))) :=
  W.ifEq X hx pcT pcF hd ho hp hq (fun q => KT ((lw_eq x y).mp q)) (fun q => KF (fun r => q ((lw_eq x y).mpr r)))
theorem W.lifNe (X : Stand p l e R s m args below meth c T locs cells slots) (hx : p.tables.exec = Jvm.exec) {o : Int} {x y : Int64} (pcT pcF : Nat) (hd : decode c.code pc = .ok (.ifCond .ne o, 3)) (ho : 0 ≤ (pc : Int) + o) (hp : ((pc : Int) + o).toNat = pcT) (hq : pc + 3 = pcF) (KT : ¬ x = y → Wp p e s below Q kc ks (T.setTop (mkF m pcT Ls st))) (KF : x = y → Wp p e s below Q kc ks (T.setTop (mkF m pcF Ls st))) : Wp p e s below Q kc ks (T.setTop (mkF m pc Ls (.int (lcmpW x y) :: st))) :=
  W.ifNe X hx pcT pcF hd ho hp hq (fun q => KT (fun r => q ((lw_eq x y).mpr r))) (fun q => KF ((lw_eq x y).mp q))
theorem W.lifLt (X : Stand p l e R s m args below meth c T locs cells slots) (hx : p.tables.exec = Jvm.exec) {o : Int} {x y : Int64} (pcT pcF : Nat) (hd : decode c.code pc = .ok (.ifCond .lt o, 3)) (ho : 0 ≤ (pc : Int) + o) (hp : ((pc : Int) + o).toNat = pcT) (hq : pc + 3 = pcF) (KT : x < y → Wp p e s below Q kc ks (T.setTop (mkF m pcT Ls st))) (KF : ¬ x < y → Wp p e s below Q kc ks (T.setTop (mkF m pcF Ls st))) : Wp p e s below Q kc ks (T.setTop (mkF m pc Ls (.int (lcmpW x y) :: st))) :=
  W.ifLt X hx pcT pcF hd ho hp hq (fun q => KT ((lw_lt x y).mp q)) (fun q => KF (fun r => q ((lw_lt x y).mpr r)))
theorem W.lifGe (X : Stand p l e R s m args below meth c T locs cells slots) (hx : p.tables.exec = Jvm.exec) {o : Int} {x y : Int64} (pcT pcF : Nat) (hd : decode c.code pc = .ok (.ifCond .ge o, 3)) (ho : 0 ≤ (pc : Int) + o) (hp : ((pc : Int) + o).toNat = pcT) (hq : pc + 3 = pcF) (KT : ¬ x < y → Wp p e s below Q kc ks (T.setTop (mkF m pcT Ls st))) (KF : x < y → Wp p e s below Q kc ks (T.setTop (mkF m pcF Ls st))) : Wp p e s below Q kc ks (T.setTop (mkF m pc Ls (.int (lcmpW x y) :: st))) :=
  W.ifGe X hx pcT pcF hd ho hp hq (fun q => KT (fun r => q ((lw_lt x y).mpr r))) (fun q => KF ((lw_lt x y).mp q))
theorem W.lifGt (X : Stand p l e R s m args below meth c T locs cells slots) (hx : p.tables.exec = Jvm.exec) {o : Int} {x y : Int64} (pcT pcF : Nat) (hd : decode c.code pc = .ok (.ifCond .gt o, 3)) (ho : 0 ≤ (pc : Int) + o) (hp : ((pc : Int) + o).toNat = pcT) (hq : pc + 3 = pcF) (KT : y < x → Wp p e s below Q kc ks (T.setTop (mkF m pcT Ls st))) (KF : ¬ y < x → Wp p e s below Q kc ks (T.setTop (mkF m pcF Ls st))) : Wp p e s below Q kc ks (T.setTop (mkF m pc Ls (.int (lcmpW x y) :: st))) :=
  W.ifGt X hx pcT pcF hd ho hp hq (fun q => KT ((lw_gt x y).mp q)) (fun q => KF (fun r => q ((lw_gt x y).mpr r)))
theorem W.lifLe (X : Stand p l e R s m args below meth c T locs cells slots) (hx : p.tables.exec = Jvm.exec) {o : Int} {x y : Int64} (pcT pcF : Nat) (hd : decode c.code pc = .ok (.ifCond .le o, 3)) (ho : 0 ≤ (pc : Int) + o) (hp : ((pc : Int) + o).toNat = pcT) (hq : pc + 3 = pcF) (KT : ¬ y < x → Wp p e s below Q kc ks (T.setTop (mkF m pcT Ls st))) (KF : y < x → Wp p e s below Q kc ks (T.setTop (mkF m pcF Ls st))) : Wp p e s below Q kc ks (T.setTop (mkF m pc Ls (.int (lcmpW x y) :: st))) :=
  W.ifLe X hx pcT pcF hd ho hp hq (fun q => KT (fun r => q ((lw_gt x y).mpr r))) (fun q => KF ((lw_gt x y).mp q))
theorem W.nonnullR (X : Stand p l e R s m args below meth c T locs cells slots) (hx : p.tables.exec = Jvm.exec) {o : Int} {b : Addr} (pcT : Nat) (hd : decode c.code pc = .ok (.ifnonnull o, 3)) (ho : 0 ≤ (pc : Int) + o) (hp : ((pc : Int) + o).toNat = pcT) (K : Wp p e s below Q kc ks (T.setTop (mkF m pcT Ls st))) : Wp p e s below Q kc ks (T.setTop (mkF m pc Ls (.ref b :: st))) :=
  Wp.step (fun _ k => XS.ifnonnullYes X.here hx rfl rfl hd rfl ho hp k) K
theorem W.nonnullN (X : Stand p l e R s m args below meth c T locs cells slots) (hx : p.tables.exec = Jvm.exec) {o : Int} (pc' : Nat) (hd : decode c.code pc = .ok (.ifnonnull o, 3)) (hp : pc + 3 = pc') (K : Wp p e s below Q kc ks (T.setTop (mkF m pc' Ls st))) : Wp p e s below Q kc ks (T.setTop (mkF m pc Ls (.null :: st))) := by
  subst hp; exact Wp.step (fun _ k => XS.ifnonnullNo X.here hx rfl hd rfl k) K
theorem W.nullN (X : Stand p l e R s m args below meth c T locs cells slots) (hx : p.tables.exec = Jvm.exec) {o : Int} (pcT : Nat) (hd : decode c.code pc = .ok (.ifnull o, 3)) (ho : 0 ≤ (pc : Int) + o) (hp : ((pc : Int) + o).toNat = pcT) (K : Wp p e s below Q kc ks (T.setTop (mkF m pcT Ls st))) : Wp p e s below Q kc ks (T.setTop (mkF m pc Ls (.null :: st))) :=
  Wp.step (fun _ k => XS.ifnullYes X.here hx rfl rfl hd rfl ho hp k) K
theorem W.nullR (X : Stand p l e R s m args below meth c T locs cells slots) (hx : p.tables.exec = Jvm.exec) {o : Int} {b : Addr} (pc' : Nat) (hd : decode c.code pc = .ok (.ifnull o, 3)) (hp : pc + 3 = pc') (K : Wp p e s below Q kc ks (T.setTop (mkF m pc' Ls st))) : Wp p e s below Q kc ks (T.setTop (mkF m pc Ls (.ref b :: st))) := by
  subst hp; exact Wp.step (fun _ k => XS.ifnullNo X.here hx rfl hd rfl k) K
theorem W.acmpE (X : Stand p l e R s m args below meth c T locs cells slots) (hx : p.tables.exec = Jvm.exec) {o : Int} {x y : Value} (pcT pcF : Nat) (h1 : x.isRef = true) (h2 : y.isRef = true) (hd : decode c.code pc = .ok (.if_acmp .eq o, 3)) (ho : 0 ≤ (pc : Int) + o) (hp : ((pc : Int) + o).toNat = pcT) (hq : pc + 3 = pcF) (KT : x = y → Wp p e s below Q kc ks (T.setTop (mkF m pcT Ls st))) (KF : ¬ x = y → Wp p e s below Q kc ks (T.setTop (mkF m pcF Ls st))) : Wp p e s below Q kc ks (T.setTop (mkF m pc Ls (y :: x :: st))) := by
  by_cases q : x = y
  · exact Wp.step (fun _ k => acmp X hx (g := mkF m pc Ls (y :: x :: st)) rfl h1 h2 rfl hd rfl (same := true) (by simp [q]) ho (pc' := pcT) (by simp [acV, hp]) k) (KT q)
  · exact Wp.step (fun _ k => acmp X hx (g := mkF m pc Ls (y :: x :: st)) rfl h1 h2 rfl hd rfl (same := false) (by simp [q]) ho (pc' := pcF) (by simp [acV, hq]) k) (KF q)
theorem W.acmpN (X : Stand p l e R s m args below meth c T locs cells slots) (hx : p.tables.exec = Jvm.exec) {o : Int} {x y : Value} (pcT pcF : Nat) (h1 : x.isRef = true) (h2 : y.isRef = true) (hd : decode c.code pc = .ok (.if_acmp .ne o, 3)) (ho : 0 ≤ (pc : Int) + o) (hp : ((pc : Int) + o).toNat = pcT) (hq : pc + 3 = pcF) (KT : ¬ x = y → Wp p e s below Q kc ks (T.setTop (mkF m pcT Ls st))) (KF : x = y → Wp p e s below Q kc ks (T.setTop (mkF m pcF Ls st))) : Wp p e s below Q kc ks (T.setTop (mkF m pc Ls (y :: x :: st))) := by
  by_cases q : x = y
  · exact Wp.step (fun _ k => acmp X hx (g := mkF m pc Ls (y :: x :: st)) rfl h1 h2 rfl hd rfl (same := true) (by simp [q]) ho (pc' := pcF) (by simp [acV, hq]) k) (KF q)
  · exact Wp.step (fun _ k => acmp X hx (g := mkF m pc Ls (y :: x :: st)) rfl h1 h2 rfl hd rfl (same := false) (by simp [q]) ho (pc' := pcT) (by simp [acV, hp]) k) (KT q)
theorem W.newarr (X : Stand p l e R s m args below meth c T locs cells slots) (hx : p.tables.exec = Jvm.exec) (hZ : Z.Warmed39 s.vm) {aty : ArrayType} {z : Int32} (pc' : Nat) (k cap : Nat) (w : (Jvm.Cond.arrayClass (newarray.typeOf aty)).before a0 Z = true) (eT : T.heap = h) (hd : decode c.code pc = .ok (.newarray aty, 2)) (hz : z.toInt = (k : Int)) (hcap : k ≤ cap) (hb : cap * 8 ≤ 536870912) (hc : cells + 1 ≤ R.cells) (hl : slots + cap ≤ R.slots) (hp : pc + 2 = pc')
    (K : ∀ T' h', Stand p l e R s m args below meth c T' locs (cells + 1) (slots + cap) → T'.heap = h' → Ext h h' → IArr Z h' h.size (newarray.typeOf aty) k (fun _ => defaultValue (newarray.typeOf aty)) → Wp p e s below Q kc ks (T'.setTop (mkF m pc' Ls (.ref h.size :: st)))) : Wp p e s below Q kc ks (T.setTop (mkF m pc Ls (.int z :: st))) := by
  subst hp
  obtain ⟨q1, q2⟩ := nat_of hz
  obtain ⟨T', h', cA, X', e', E, A, stp⟩ := newP X hx hZ w eT (g := mkF m pc Ls (.int z :: st)) rfl hd rfl q1 (cap := cap) (by omega) hb hc hl
  exact Wp.step stp (K T' h' X' e' E (IArr.fresh A q2))
theorem IArr.inb {j : Int32} {i : Nat} {cl : Cell} (S : cl.slots.size = n) (hj : j.toInt = (i : Int)) (hi : i < n) : ¬ (j < 0 ∨ cl.slots.size ≤ j.toNatClampNeg) := by
  obtain ⟨q1, q2⟩ := nat_of hj
  rw [S, q2]; intro q; rcases q with q | q
  · exact q1 q
  · omega
theorem W.arrlen (X : Stand p l e R s m args below meth c T locs cells slots) (hx : p.tables.exec = Jvm.exec) (hZ : Z.Warmed39 s.vm) (pc' : Nat) (eT : T.heap = h) (A : IArr Z h a ty n f) (v : Int32) (hv : n.toInt32 = v) (hd : decode c.code pc = .ok (.arraylength, 1)) (hp : pc + 1 = pc') (K : Wp p e s below Q kc ks (T.setTop (mkF m pc' Ls (.int v :: st)))) : Wp p e s below Q kc ks (T.setTop (mkF m pc Ls (.ref a :: st))) := by
  subst hp hv
  obtain ⟨cl, A, S, H⟩ := A
  subst S
  exact Wp.step (fun t k => X.arraylength hx (by rw [eT]; exact A.1) (State.isArrayOf_alike hZ.alike A.2.1) (g := mkF m pc Ls (.ref a :: st)) rfl rfl hd t k) K
theorem W.iaload (X : Stand p l e R s m args below meth c T locs cells slots) (hx : p.tables.exec = Jvm.exec) (hZ : Z.Warmed39 s.vm) {j : Int32} (pc' : Nat) (i : Nat) (v : Value) (eT : T.heap = h) (A : IArr Z h a .int n f) (hj : j.toInt = (i : Int)) (hi : i < n) (hv : f i = v) (hd : decode c.code pc = .ok (.iaload, 1)) (hp : pc + 1 = pc') (K : Wp p e s below Q kc ks (T.setTop (mkF m pc' Ls (v :: st)))) : Wp p e s below Q kc ks (T.setTop (mkF m pc Ls (.int j :: .ref a :: st))) := by
  subst hp hv
  obtain ⟨cl, A, S, H⟩ := A
  exact Wp.step (fun t k => X.iaload hx (by rw [eT]; exact A.1) (State.isArrayOf_alike hZ.alike A.2.1) A.2.2 (IArr.inb S hj hi) (by rw [(nat_of hj).2]; exact H i hi) (g := mkF m pc Ls (.int j :: .ref a :: st)) rfl rfl hd t k) K
theorem W.laload (X : Stand p l e R s m args below meth c T locs cells slots) (hx : p.tables.exec = Jvm.exec) (hZ : Z.Warmed39 s.vm) {j : Int32} (pc' : Nat) (i : Nat) (v : Value) (eT : T.heap = h) (A : IArr Z h a .long n f) (hj : j.toInt = (i : Int)) (hi : i < n) (hv : f i = v) (hd : decode c.code pc = .ok (.laload, 1)) (hp : pc + 1 = pc') (K : Wp p e s below Q kc ks (T.setTop (mkF m pc' Ls (v :: st)))) : Wp p e s below Q kc ks (T.setTop (mkF m pc Ls (.int j :: .ref a :: st))) := by
  subst hp hv
  obtain ⟨cl, A, S, H⟩ := A
  exact Wp.step (fun t k => X.laload hx (by rw [eT]; exact A.1) (State.isArrayOf_alike hZ.alike A.2.1) A.2.2 (IArr.inb S hj hi) (by rw [(nat_of hj).2]; exact H i hi) (g := mkF m pc Ls (.int j :: .ref a :: st)) rfl rfl hd t k) K
theorem W.caload (X : Stand p l e R s m args below meth c T locs cells slots) (hx : p.tables.exec = Jvm.exec) (hZ : Z.Warmed39 s.vm) {j : Int32} (pc' : Nat) (i : Nat) (v : Value) (eT : T.heap = h) (A : IArr Z h a .char n f) (hj : j.toInt = (i : Int)) (hi : i < n) (hv : f i = v) (hd : decode c.code pc = .ok (.caload, 1)) (hp : pc + 1 = pc') (K : Wp p e s below Q kc ks (T.setTop (mkF m pc' Ls (v :: st)))) : Wp p e s below Q kc ks (T.setTop (mkF m pc Ls (.int j :: .ref a :: st))) := by
  subst hp hv
  obtain ⟨cl, A, S, H⟩ := A
  exact Wp.step (fun t k => X.caload hx (by rw [eT]; exact A.1) (State.isArrayOf_alike hZ.alike A.2.1) A.2.2 (IArr.inb S hj hi) (by rw [(nat_of hj).2]; exact H i hi) (g := mkF m pc Ls (.int j :: .ref a :: st)) rfl rfl hd t k) K
theorem W.baload (X : Stand p l e R s m args below meth c T locs cells slots) (hx : p.tables.exec = Jvm.exec) (hZ : Z.Warmed39 s.vm) {j : Int32} (pc' : Nat) (i : Nat) (v : Value) (eT : T.heap = h) (A : IArr Z h a .byte n f) (hj : j.toInt = (i : Int)) (hi : i < n) (hv : f i = v) (hd : decode c.code pc = .ok (.baload, 1)) (hp : pc + 1 = pc') (K : Wp p e s below Q kc ks (T.setTop (mkF m pc' Ls (v :: st)))) : Wp p e s below Q kc ks (T.setTop (mkF m pc Ls (.int j :: .ref a :: st))) := by
  subst hp hv
  obtain ⟨cl, A, S, H⟩ := A
  exact Wp.step (fun t k => X.baloadBytes hx (by rw [eT]; exact A.1) (State.isArrayOf_alike hZ.alike A.2.1) A.2.2 (IArr.inb S hj hi) (by rw [(nat_of hj).2]; exact H i hi) (g := mkF m pc Ls (.int j :: .ref a :: st)) rfl rfl hd t k) K
theorem W.zaload (X : Stand p l e R s m args below meth c T locs cells slots) (hx : p.tables.exec = Jvm.exec) (hZ : Z.Warmed39 s.vm) {j : Int32} (pc' : Nat) (i : Nat) (v : Value) (eT : T.heap = h) (A : IArr Z h a .boolean n f) (hj : j.toInt = (i : Int)) (hi : i < n) (hv : f i = v) (hd : decode c.code pc = .ok (.baload, 1)) (hp : pc + 1 = pc') (K : Wp p e s below Q kc ks (T.setTop (mkF m pc' Ls (v :: st)))) : Wp p e s below Q kc ks (T.setTop (mkF m pc Ls (.int j :: .ref a :: st))) := by
  subst hp hv
  obtain ⟨cl, A, S, H⟩ := A
  exact Wp.step (fun t k => X.baloadBooleans hx (by rw [eT]; exact A.1) (State.isArrayOf_alike hZ.alike A.2.1) A.2.2 (IArr.inb S hj hi) (by rw [(nat_of hj).2]; exact H i hi) (g := mkF m pc Ls (.int j :: .ref a :: st)) rfl rfl hd t k) K
theorem W.aaload (X : Stand p l e R s m args below meth c T locs cells slots) (hx : p.tables.exec = Jvm.exec) (hZ : Z.Warmed39 s.vm) {j : Int32} (pc' : Nat) (i : Nat) (v : Value) (eT : T.heap = h) (A : IArr Z h a ty n f) (hty : ty.isReference = true) (hj : j.toInt = (i : Int)) (hi : i < n) (hv : f i = v) (hd : decode c.code pc = .ok (.aaload, 1)) (hp : pc + 1 = pc') (K : Wp p e s below Q kc ks (T.setTop (mkF m pc' Ls (v :: st)))) : Wp p e s below Q kc ks (T.setTop (mkF m pc Ls (.int j :: .ref a :: st))) := by
  subst hp hv
  obtain ⟨cl, A, S, H⟩ := A
  exact Wp.step (fun t k => X.aaload hx (by rw [eT]; exact A.1) (State.isArrayOf_alike hZ.alike A.2.1) hty A.2.2 (IArr.inb S hj hi) (by rw [(nat_of hj).2]; exact H i hi) (g := mkF m pc Ls (.int j :: .ref a :: st)) rfl rfl hd t k) K
theorem W.iastore (X : Stand p l e R s m args below meth c T locs cells slots) (hx : p.tables.exec = Jvm.exec) (hZ : Z.Warmed39 s.vm) {j : Int32} {x : Int32} (pc' : Nat) (i : Nat) (eT : T.heap = h) (A : IArr Z h a .int n f) (hj : j.toInt = (i : Int)) (hi : i < n) (hd : decode c.code pc = .ok (.iastore, 1)) (hp : pc + 1 = pc')
    (K : ∀ T' h', Stand p l e R s m args below meth c T' (locs ++ [⟨a, i⟩]) cells slots → T'.heap = h' → Wr h h' a i (.int x) → IArr Z h' a .int n (upd f i (.int x)) → Wp p e s below Q kc ks (T'.setTop (mkF m pc' Ls st))) : Wp p e s below Q kc ks (T.setTop (mkF m pc Ls (.int x :: .int j :: .ref a :: st))) := by
  subst hp
  obtain ⟨cl, A0, S, H⟩ := A
  obtain ⟨T', h', X', e', W, stp⟩ := stI X hx hZ eT A0 (IArr.inb S hj hi) (g := mkF m pc Ls (.int x :: .int j :: .ref a :: st)) rfl rfl hd
  rw [(nat_of hj).2] at X' W
  exact Wp.step stp (K T' h' X' e' W (IArr.same ⟨cl, A0, S, H⟩ W))
theorem W.lastore (X : Stand p l e R s m args below meth c T locs cells slots) (hx : p.tables.exec = Jvm.exec) (hZ : Z.Warmed39 s.vm) {j : Int32} {x : Int64} (pc' : Nat) (i : Nat) (eT : T.heap = h) (A : IArr Z h a .long n f) (hj : j.toInt = (i : Int)) (hi : i < n) (hd : decode c.code pc = .ok (.lastore, 1)) (hp : pc + 1 = pc')
    (K : ∀ T' h', Stand p l e R s m args below meth c T' (locs ++ [⟨a, i⟩]) cells slots → T'.heap = h' → Wr h h' a i (.long x) → IArr Z h' a .long n (upd f i (.long x)) → Wp p e s below Q kc ks (T'.setTop (mkF m pc' Ls st))) : Wp p e s below Q kc ks (T.setTop (mkF m pc Ls (.long x :: .int j :: .ref a :: st))) := by
  subst hp
  obtain ⟨cl, A0, S, H⟩ := A
  obtain ⟨T', h', X', e', W, stp⟩ := stJ X hx hZ eT A0 (IArr.inb S hj hi) (g := mkF m pc Ls (.long x :: .int j :: .ref a :: st)) rfl rfl hd
  rw [(nat_of hj).2] at X' W
  exact Wp.step stp (K T' h' X' e' W (IArr.same ⟨cl, A0, S, H⟩ W))
theorem W.castore (X : Stand p l e R s m args below meth c T locs cells slots) (hx : p.tables.exec = Jvm.exec) (hZ : Z.Warmed39 s.vm) {j : Int32} {x : Int32} (pc' : Nat) (i : Nat) (eT : T.heap = h) (A : IArr Z h a .char n f) (hj : j.toInt = (i : Int)) (hi : i < n) (hd : decode c.code pc = .ok (.castore, 1)) (hp : pc + 1 = pc')
    (K : ∀ T' h', Stand p l e R s m args below meth c T' (locs ++ [⟨a, i⟩]) cells slots → T'.heap = h' → Wr h h' a i (.int (nar .char x)) → IArr Z h' a .char n (upd f i (.int (nar .char x))) → Wp p e s below Q kc ks (T'.setTop (mkF m pc' Ls st))) : Wp p e s below Q kc ks (T.setTop (mkF m pc Ls (.int x :: .int j :: .ref a :: st))) := by
  subst hp
  obtain ⟨cl, A0, S, H⟩ := A
  obtain ⟨T', h', X', e', W, stp⟩ := stC X hx hZ eT A0 (IArr.inb S hj hi) (g := mkF m pc Ls (.int x :: .int j :: .ref a :: st)) rfl rfl hd
  rw [(nat_of hj).2] at X' W
  exact Wp.step stp (K T' h' X' e' W (IArr.same ⟨cl, A0, S, H⟩ W))
theorem W.bastore (X : Stand p l e R s m args below meth c T locs cells slots) (hx : p.tables.exec = Jvm.exec) (hZ : Z.Warmed39 s.vm) {j : Int32} {x : Int32} (pc' : Nat) (i : Nat) (eT : T.heap = h) (A : IArr Z h a .byte n f) (hj : j.toInt = (i : Int)) (hi : i < n) (hd : decode c.code pc = .ok (.bastore, 1)) (hp : pc + 1 = pc')
    (K : ∀ T' h', Stand p l e R s m args below meth c T' (locs ++ [⟨a, i⟩]) cells slots → T'.heap = h' → Wr h h' a i (.int (nar .byte x)) → IArr Z h' a .byte n (upd f i (.int (nar .byte x))) → Wp p e s below Q kc ks (T'.setTop (mkF m pc' Ls st))) : Wp p e s below Q kc ks (T.setTop (mkF m pc Ls (.int x :: .int j :: .ref a :: st))) := by
  subst hp
  obtain ⟨cl, A0, S, H⟩ := A
  obtain ⟨T', h', X', e', W, stp⟩ := stB X hx hZ eT A0 (IArr.inb S hj hi) (g := mkF m pc Ls (.int x :: .int j :: .ref a :: st)) rfl rfl hd
  rw [(nat_of hj).2] at X' W
  exact Wp.step stp (K T' h' X' e' W (IArr.same ⟨cl, A0, S, H⟩ W))
theorem W.zastore (X : Stand p l e R s m args below meth c T locs cells slots) (hx : p.tables.exec = Jvm.exec) (hZ : Z.Warmed39 s.vm) {j : Int32} {x : Int32} (pc' : Nat) (i : Nat) (eT : T.heap = h) (A : IArr Z h a .boolean n f) (hj : j.toInt = (i : Int)) (hi : i < n) (hd : decode c.code pc = .ok (.bastore, 1)) (hp : pc + 1 = pc')
    (K : ∀ T' h', Stand p l e R s m args below meth c T' (locs ++ [⟨a, i⟩]) cells slots → T'.heap = h' → Wr h h' a i (.int (nar .boolean x)) → IArr Z h' a .boolean n (upd f i (.int (nar .boolean x))) → Wp p e s below Q kc ks (T'.setTop (mkF m pc' Ls st))) : Wp p e s below Q kc ks (T.setTop (mkF m pc Ls (.int x :: .int j :: .ref a :: st))) := by
  subst hp
  obtain ⟨cl, A0, S, H⟩ := A
  obtain ⟨T', h', X', e', W, stp⟩ := stZ X hx hZ eT A0 (IArr.inb S hj hi) (g := mkF m pc Ls (.int x :: .int j :: .ref a :: st)) rfl rfl hd
  rw [(nat_of hj).2] at X' W
  exact Wp.step stp (K T' h' X' e' W (IArr.same ⟨cl, A0, S, H⟩ W))
theorem W.getS (X : Stand p l e R s m args below meth c T locs cells slots) (hx : p.tables.exec = Jvm.exec) (hZ : Z.Warmed39 s.vm) {own R0 O nm d : String} {index : Nat} {v : Value} (pc' : Nat) (hown : s.vm.findClass own = some m.cls) (w : (Jvm.Cond.fieldLink own index R0 nm d).before a0 Z = true) (via : Via Z R0 O nm d) (eT : T.heap = h) (F : Sta Z h O nm d v) (hd : decode c.code pc = .ok (.getstatic index, 3)) (hp : pc + 3 = pc')
    (K : ∀ T', Stand p l e R s m args below meth c T' locs cells slots → T'.heap = h → Wp p e s below Q kc ks (T'.setTop (mkF m pc' Ls (v :: st)))) : Wp p e s below Q kc ks (T.setTop (mkF m pc Ls st)) := by
  subst hp
  obtain ⟨T', X', e', stp⟩ := Jvm.RoadKit.getS X hx hZ (host := "") hown w via eT F (g := mkF m pc Ls st) rfl hd
  exact Wp.step stp (K T' X' e')
theorem W.getF (X : Stand p l e R s m args below meth c T locs cells slots) (hx : p.tables.exec = Jvm.exec) (hZ : Z.Warmed39 s.vm) {own R0 O nm d : String} {index : Nat} {v : Value} (pc' : Nat) (hown : s.vm.findClass own = some m.cls) (w : (Jvm.Cond.fieldLink own index R0 nm d).before a0 Z = true) (via : Via Z R0 O nm d) (eT : T.heap = h) (F : Fld Z h a O nm d v) (hd : decode c.code pc = .ok (.getfield index, 3)) (hp : pc + 3 = pc')
    (K : ∀ T', Stand p l e R s m args below meth c T' locs cells slots → T'.heap = h → Wp p e s below Q kc ks (T'.setTop (mkF m pc' Ls (v :: st)))) : Wp p e s below Q kc ks (T.setTop (mkF m pc Ls (.ref a :: st))) := by
  subst hp
  obtain ⟨T', X', e', stp⟩ := Jvm.RoadKit.getF X hx hZ (host := "") hown (Or.inl w) via eT F (g := mkF m pc Ls (.ref a :: st)) rfl rfl hd
  exact Wp.step stp (K T' X' e')
theorem W.putF (X : Stand p l e R s m args below meth c T locs cells slots) (hx : p.tables.exec = Jvm.exec) (hZ : Z.Warmed39 s.vm) {own R0 O nm d C : String} {index kk : Nat} {v old : Value} {ty : FieldType} (pc' : Nat) (hown : s.vm.findClass own = some m.cls) (w : (Jvm.Cond.fieldLink own index R0 nm d).before a0 Z = true) (via : Via Z R0 O nm d) (eT : T.heap = h) (F : Fld Z h a O nm d old) (E : Exa Z h a C) (L : (Jvm.Cond.lays C O nm d).before a0 Z = true ∨ ((Jvm.Cond.laysFinal C O nm d).before a0 Z = true ∧ own = O ∧ meth.name = "<init>")) (wi : (Jvm.Cond.instantiable C kk).before a0 Z = true)
    (hty : parseFieldDescriptor d = some ty) (hn : narrow ty v = v) (hf : fits ty v = true) (hd : decode c.code pc = .ok (.putfield index, 3)) (hp : pc + 3 = pc')
    (K : ∀ T' h', Stand p l e R s m args below meth c T' (locs ++ [⟨a, Jvm.RoadKit.slotOf Z O nm d⟩]) cells slots → T'.heap = h' → Wr h h' a (Jvm.RoadKit.slotOf Z O nm d) v → Fld Z h' a O nm d v → Wp p e s below Q kc ks (T'.setTop (mkF m pc' Ls st))) : Wp p e s below Q kc ks (T.setTop (mkF m pc Ls (v :: .ref a :: st))) := by
  subst hp
  obtain ⟨T', h', X', e', W, stp⟩ := Jvm.RoadKit.putF X hx hZ hown (host := "") (Or.inl w) via eT F E L wi hty hn hf (g := mkF m pc Ls (v :: .ref a :: st)) rfl rfl hd
  exact Wp.step stp (K T' h' X' e' W (F.same W))
theorem W.newO (X : Stand p l e R s m args below meth c T locs cells slots) (hx : p.tables.exec = Jvm.exec) (hZ : Z.Warmed39 s.vm) {own C : String} {index k : Nat} (pc' : Nat) (hown : s.vm.findClass own = some m.cls) (w : (Jvm.Cond.classLink own index C).before a0 Z = true) (wi : (Jvm.Cond.instantiable C k).before a0 Z = true) (wz : (Jvm.Cond.initialized C).before a0 Z = true) (eT : T.heap = h) (hd : decode c.code pc = .ok (.new index, 3)) (hc : cells + 1 ≤ R.cells) (hl : slots + k ≤ R.slots) (hp : pc + 3 = pc')
    (K : ∀ T' h', Stand p l e R s m args below meth c T' locs (cells + 1) (slots + k) → T'.heap = h' → Ext h h' → Exa Z h' h.size C → (∀ {O nm d : String} {ty : FieldType}, Laid Z a0 C O nm d → parseFieldDescriptor d = some ty → Fld Z h' h.size O nm d (defaultValue ty)) → Wp p e s below Q kc ks (T'.setTop (mkF m pc' Ls (.ref h.size :: st)))) : Wp p e s below Q kc ks (T.setTop (mkF m pc Ls st)) := by
  subst hp
  obtain ⟨T', h', X', e', E, A, D, -, stp⟩ := Jvm.RoadKit.newO X hx hZ hown w wi wz eT (g := mkF m pc Ls st) rfl hd hc hl
  exact Wp.step stp (K T' h' X' e' E A D)
theorem W.initO (X : Stand p l e R s m args below meth c T locs cells slots) (hx : p.tables.exec = Jvm.exec) (hZ : Z.Warmed39 s.vm) {own : String} {idx : Nat} (pc' W : Nat) (hown : s.vm.findClass own = some m.cls) (w1 : (Jvm.Cond.methodLink own idx Lib.objectInit).before a0 Z = true) (w2 : (Jvm.Cond.instanceMethod Lib.objectInit).before a0 Z = true) (w3 : (Jvm.Cond.code Lib.objectInit ⟨#[0xb1]⟩ 1 none).before a0 Z = true) (eT : T.heap = h) (hsz : Ls.size = c.maxLocals) (hd : decode c.code pc = .ok (.invokespecial idx, 3)) (hf : 1 ≤ R.frames) (hW : (st.map fun v => v.category).sum = W) (hl : W + 12 ≤ R.locals) (hp : pc + 3 = pc')
    (K : ∀ T', Stand p l e R s m args below meth c T' locs cells slots → T'.heap = h → Wp p e s below Q kc ks (T'.setTop (mkF m pc' Ls st))) : Wp p e s below Q kc ks (T.setTop (mkF m pc Ls (.ref a :: st))) := by
  subst hp
  obtain ⟨T', X', e', stp⟩ := Jvm.RoadKit.initO X hx hZ hown w1 w2 w3 eT (g := mkF m pc Ls (.ref a :: st)) rfl hsz rfl hd hf (W := W) (by show 2 * 0 + _ ≤ _; omega) hl
  exact Wp.step stp (K T' X' e')
/-! calls -/
theorem W.callS (X : Stand p l e R s m args below meth c T locs cells slots) (hx : p.tables.exec = Jvm.exec) (hZ : Z.Warmed39 s.vm) {own : String} {index : Nat} {y : MethodName} {bytes : ByteArray} {maxL : Nat} {ret : Option FieldType} {rm : Room} {Qc : Option Value → Heap → List Loc → Prop} {ps : List FieldType} {r : Option FieldType} {stk : List Value} (pc' W : Nat) (argsL : List Value)
    (hown : s.vm.findClass own = some m.cls) (w1 : (Jvm.Cond.methodLink own index y).before a0 Z = true) (w2 : (Jvm.Cond.static y).before a0 Z = true) (w3 : (Jvm.Cond.initialized y.cls).before a0 Z = true) (w4 : (Jvm.Cond.code y bytes maxL ret).before a0 Z = true) (hy : y.cls ≠ "java/lang/invoke/MethodHandle" ∧ y.cls ≠ "java/lang/invoke/VarHandle")
    (hpd : parseMethodDescriptor y.desc = some ⟨ps, r⟩) (hlen : argsL.length = ps.length) (eT : T.heap = h) (hM : Con l Z y bytes maxL ret [] rm argsL.toArray h Qc) (hd : decode c.code pc = .ok (.invokestatic index, 3)) (hsz : Ls.size = c.maxLocals) (hstk : stk = argsL.reverse ++ rest) (hW : (rest.map fun v => v.category).sum = W)
    (hf : rm.frames + 1 ≤ R.frames) (hl : W + (maxL + 11) + rm.locals ≤ R.locals) (hc : cells + rm.cells ≤ R.cells) (hsl : slots + rm.slots ≤ R.slots) (hp : pc + 3 = pc')
    (K : ∀ v T' L, Stand p l e R s m args below meth c T' (locs ++ L) (cells + rm.cells) (slots + rm.slots) → Qc v T'.heap L → Wp p e s below Q kc ks (T'.setTop (mkF m pc' Ls (v.toList ++ rest)))) : Wp p e s below Q kc ks (T.setTop (mkF m pc Ls stk)) := by
  subst hp hstk
  obtain ⟨v, vm₁, ⟨T', L', k', n'⟩, -, X', ⟨Lc, hQ, l1, l2, l3⟩, stp⟩ := Jvm.LawKit.callS X hx (y := y) hown (mvT hZ w1) (mvT hZ w2) (mvT hZ w3) (mvT hZ w4) hy (backOf (W := W) hM hZ w4 w3 hf hl) (g := mkF m pc Ls (argsL.reverse ++ rest)) rfl hsz (argsL := argsL) (rest := rest) (lenOf hpd hlen) rfl (by show 2 * 0 + _ ≤ _; omega) hd (fun _ _ => ⟨rfl, eT, hc, hsl⟩)
  dsimp only [Pt.U, Pt.locs, Pt.cells, Pt.slots] at X' l1 l2 l3 stp hQ
  subst l1 l2 l3
  exact Wp.step stp (K v T' Lc X' hQ)
theorem W.callI (X : Stand p l e R s m args below meth c T locs cells slots) (hx : p.tables.exec = Jvm.exec) (hZ : Z.Warmed39 s.vm) {own : String} {index : Nat} {y : MethodName} {bytes : ByteArray} {maxL : Nat} {rm : Room} {Qc : Option Value → Heap → List Loc → Prop} {ps : List FieldType} {r : Option FieldType} {stk : List Value} (pc' W : Nat) (b : Addr) (argsL : List Value) (hy1 : y.name = "<init>")
    (hown : s.vm.findClass own = some m.cls) (w1 : (Jvm.Cond.methodLink own index y).before a0 Z = true) (w2 : (Jvm.Cond.instanceMethod y).before a0 Z = true) (w3 : (Jvm.Cond.initialized y.cls).before a0 Z = true) (w4 : (Jvm.Cond.code y bytes maxL none).before a0 Z = true) (hy : y.cls ≠ "java/lang/invoke/MethodHandle" ∧ y.cls ≠ "java/lang/invoke/VarHandle")
    (hpd : parseMethodDescriptor y.desc = some ⟨ps, r⟩) (hlen : argsL.length = ps.length) (eT : T.heap = h) (hM : Con l Z y bytes maxL none [] rm (.ref b :: argsL).toArray h Qc) (hd : decode c.code pc = .ok (.invokespecial index, 3)) (hsz : Ls.size = c.maxLocals) (hstk : stk = argsL.reverse ++ .ref b :: rest) (hW : (rest.map fun v => v.category).sum = W)
    (hf : rm.frames + 1 ≤ R.frames) (hl : W + (maxL + 11) + rm.locals ≤ R.locals) (hc : cells + rm.cells ≤ R.cells) (hsl : slots + rm.slots ≤ R.slots) (hp : pc + 3 = pc')
    (K : ∀ v T' L, Stand p l e R s m args below meth c T' (locs ++ L) (cells + rm.cells) (slots + rm.slots) → Qc v T'.heap L → Wp p e s below Q kc ks (T'.setTop (mkF m pc' Ls (v.toList ++ rest)))) : Wp p e s below Q kc ks (T.setTop (mkF m pc Ls stk)) := by
  subst hp hstk
  obtain ⟨v, vm₁, ⟨T', L', k', n'⟩, -, X', ⟨Lc, hQ, l1, l2, l3⟩, stp⟩ := X.specialBack hx (y := y) hy1 hown (mvT hZ w1) (mvT hZ w2) (mvT hZ w4) hy (backOf (W := W) hM hZ w4 w3 hf hl) (g := mkF m pc Ls (argsL.reverse ++ .ref b :: rest)) rfl hsz (Steps.refl _) (a := b) (argsL := argsL) (rest := rest) (lenOf hpd hlen) rfl (by show 2 * 0 + _ ≤ _; omega) hd (fun _ _ => ⟨rfl, eT, hc, hsl⟩)
  dsimp only [Pt.U, Pt.locs, Pt.cells, Pt.slots] at X' l1 l2 l3 stp hQ
  subst l1 l2 l3
  exact Wp.chain stp (K v T' Lc X' hQ)
theorem W.callV (X : Stand p l e R s m args below meth c T locs cells slots) (hx : p.tables.exec = Jvm.exec) (hZ : Z.Warmed39 s.vm) {own C : String} {index : Nat} {y : MethodName} {bytes : ByteArray} {maxL : Nat} {ret : Option FieldType} {rm : Room} {Qc : Option Value → Heap → List Loc → Prop} {ps : List FieldType} {r : Option FieldType} {stk : List Value} (pc' W : Nat) (b : Addr) (argsL : List Value)
    (hown : s.vm.findClass own = some m.cls) (w1 : (Jvm.Cond.methodLink own index y).before a0 Z = true) (w2 : (Jvm.Cond.declares y).before a0 Z = true) (w5 : (Jvm.Cond.selects C y y).before a0 Z = true) (w6 : (Jvm.Cond.instanceMethod y).before a0 Z = true) (w3 : (Jvm.Cond.initialized y.cls).before a0 Z = true) (w4 : (Jvm.Cond.code y bytes maxL ret).before a0 Z = true) (hy : y.cls ≠ "java/lang/invoke/MethodHandle" ∧ y.cls ≠ "java/lang/invoke/VarHandle")
    (hpd : parseMethodDescriptor y.desc = some ⟨ps, r⟩) (hlen : argsL.length = ps.length) (eT : T.heap = h) (E : Exa Z h b C) (hM : Con l Z y bytes maxL ret [] rm (.ref b :: argsL).toArray h Qc) (hd : decode c.code pc = .ok (.invokevirtual index, 3)) (hsz : Ls.size = c.maxLocals) (hstk : stk = argsL.reverse ++ .ref b :: rest) (hW : (rest.map fun v => v.category).sum = W)
    (hf : rm.frames + 1 ≤ R.frames) (hl : W + (maxL + 11) + rm.locals ≤ R.locals) (hc : cells + rm.cells ≤ R.cells) (hsl : slots + rm.slots ≤ R.slots) (hp : pc + 3 = pc')
    (K : ∀ v T' L, Stand p l e R s m args below meth c T' (locs ++ L) (cells + rm.cells) (slots + rm.slots) → Qc v T'.heap L → Wp p e s below Q kc ks (T'.setTop (mkF m pc' Ls (v.toList ++ rest)))) : Wp p e s below Q kc ks (T.setTop (mkF m pc Ls stk)) := by
  subst hp hstk
  obtain ⟨cq, kq, qa, qb, qc⟩ := isOf hZ eT E
  obtain ⟨v, vm₁, ⟨T', L', k', n'⟩, -, X', ⟨Lc, hQ, l1, l2, l3⟩, stp⟩ := X.virtualBack hx (y := y) (z := y) hown (mvT hZ w1) (mvT hZ w2) (notFace_of_selects (args := args) (mvT hZ w5)) (mvT hZ w5) (mvT hZ w6) hy (backOf (W := W) hM hZ w4 w3 hf hl) qa qc (g := mkF m pc Ls (argsL.reverse ++ .ref b :: rest)) rfl hsz (Steps.refl _) (argsL := argsL) (rest := rest) (lenOf hpd hlen) rfl (by show 2 * 0 + _ ≤ _; omega) hd (fun _ _ => ⟨rfl, eT, hc, hsl⟩)
  dsimp only [Pt.U, Pt.locs, Pt.cells, Pt.slots] at X' l1 l2 l3 stp hQ
  subst l1 l2 l3
  exact Wp.chain stp (K v T' Lc X' hQ)
theorem ext_refl (h : Heap) : Ext h h := ⟨Nat.le_refl _, fun _ _ q => q⟩
theorem ext_trans {h1 h2 h3 : Heap} (E : Ext h1 h2) (E' : Ext h2 h3) : Ext h1 h3 := ⟨Nat.le_trans E.1 E'.1, fun a c q => E'.2 a c (E.2 a c q)⟩
theorem ext_wr {h0 : Heap} {sl : Nat} {v : Value} (E : Ext h0 h) (W : Wr h h' a sl v) (q : h0.size ≤ a) : Ext h0 h' := by
  refine ⟨by rw [W.size]; exact E.1, fun x cx hx => ?_⟩
  obtain ⟨c', e1, -, -, -, e5, -⟩ := wr_at W (E.2 x cx hx)
  rw [e1, e5 (fun z => by subst z; exact absurd (Array.getElem?_eq_some_iff.mp hx).1 (Nat.not_lt.mpr q))]
theorem ext_keep {h0 : Heap} {ws : List Addr} (E : Ext h0 h) (K : Keep h h' ws) (q : ∀ x ∈ ws, h0.size ≤ x) : Ext h0 h' :=
  ⟨Nat.le_trans E.1 K.1, fun x cx hx => K.2.1 x cx (E.2 x cx hx) fun z => absurd (Array.getElem?_eq_some_iff.mp hx).1 (Nat.not_lt.mpr (q x z))⟩
/-! switches -/
theorem W.lswHit (X : Stand p l e R s m args below meth c T locs cells slots) (hx : p.tables.exec = Jvm.exec) {k : Int32} {dflt : Int} {pairs : Array (Int × Int)} {len : Nat} (pc' : Nat) (y off : Int) (hd : decode c.code pc = .ok (.lookupswitch dflt pairs, len)) (hso : (pairs.toList.zip (pairs.toList.drop 1)).all (fun (a, next) => a.1 < next.1) = true) (hf : pairs.find? (·.1 == k.toInt) = some (y, off)) (ho : 0 ≤ (pc : Int) + off) (hp : ((pc : Int) + off).toNat = pc') (K : Wp p e s below Q kc ks (T.setTop (mkF m pc' Ls st))) : Wp p e s below Q kc ks (T.setTop (mkF m pc Ls (.int k :: st))) := by
  subst hp; exact Wp.step (fun t q => X.lookupswitchHit hx (g := mkF m pc Ls (.int k :: st)) rfl rfl hd hso hf ho t q) K
theorem W.lswMiss (X : Stand p l e R s m args below meth c T locs cells slots) (hx : p.tables.exec = Jvm.exec) {k : Int32} {dflt : Int} {pairs : Array (Int × Int)} {len : Nat} (pc' : Nat) (hd : decode c.code pc = .ok (.lookupswitch dflt pairs, len)) (hso : (pairs.toList.zip (pairs.toList.drop 1)).all (fun (a, next) => a.1 < next.1) = true) (hf : pairs.find? (·.1 == k.toInt) = none) (ho : 0 ≤ (pc : Int) + dflt) (hp : ((pc : Int) + dflt).toNat = pc') (K : Wp p e s below Q kc ks (T.setTop (mkF m pc' Ls st))) : Wp p e s below Q kc ks (T.setTop (mkF m pc Ls (.int k :: st))) := by
  subst hp; exact Wp.step (fun t q => X.lookupswitchMiss hx (g := mkF m pc Ls (.int k :: st)) rfl rfl hd hso hf ho t q) K
theorem W.tswIn (X : Stand p l e R s m args below meth c T locs cells slots) (hx : p.tables.exec = Jvm.exec) {k : Int32} {dflt low high : Int} {offs : Array Int} {len : Nat} (pc' : Nat) (off : Int) (hd : decode c.code pc = .ok (.tableswitch dflt low high offs, len)) (hi : ¬ (k.toInt < low ∨ k.toInt > high)) (hf : offs[(k.toInt - low).toNat]? = some off) (ho : 0 ≤ (pc : Int) + off) (hp : ((pc : Int) + off).toNat = pc') (K : Wp p e s below Q kc ks (T.setTop (mkF m pc' Ls st))) : Wp p e s below Q kc ks (T.setTop (mkF m pc Ls (.int k :: st))) := by
  subst hp; exact Wp.step (fun t q => X.tableswitchIn hx (g := mkF m pc Ls (.int k :: st)) rfl rfl hd hi hf ho t q) K
/-! arrays of references -/
def Takes (Z : State) (h : Heap) (a : Addr) (C : String) : Prop := ∃ (c : Cell) (ty : FieldType), Arr Z h a c ty ∧ Ovr Z c.cls C
theorem Takes.lt {C : String} (F : Takes Z h a C) : a < h.size := by obtain ⟨c, ty, A, -⟩ := F; exact A.lt
theorem Takes.ext {C : String} (F : Takes Z h a C) (E : Ext h h') : Takes Z h' a C := by obtain ⟨c, ty, A, O⟩ := F; exact ⟨c, ty, A.ext E, O⟩
theorem Takes.wr {C : String} {sl : Nat} {v : Value} (F : Takes Z h a C) (W : Wr h h' b sl v) : Takes Z h' a C := by
  obtain ⟨c, ty, A, O⟩ := F
  by_cases q : a = b
  · subst q; exact ⟨_, ty, A.same W, O⟩
  · exact ⟨c, ty, A.other W q, O⟩
theorem Takes.sto {C : String} {y : Addr} (F : Takes Z h a C) (I : Ins Z h y C true) : Sto Z h a (.ref y) := by obtain ⟨c, ty, A, O⟩ := F; exact Sto.of A O I
theorem W.newR (X : Stand p l e R s m args below meth c T locs cells slots) (hx : p.tables.exec = Jvm.exec) (hZ : Z.Warmed39 s.vm) {own C : String} {index : Nat} {z : Int32} (pc' : Nat) (k cap : Nat) (hown : s.vm.findClass own = some m.cls) (w1 : (Jvm.Cond.classLink own index C).before a0 Z = true) (w2 : (Jvm.Cond.arrayOver (.object C)).before a0 Z = true) (eT : T.heap = h) (hd : decode c.code pc = .ok (.anewarray index, 3)) (hz : z.toInt = (k : Int)) (hcap : k ≤ cap) (hb : cap * 8 ≤ 536870912) (hc : cells + 1 ≤ R.cells) (hl : slots + cap ≤ R.slots) (hp : pc + 3 = pc')
    (K : ∀ T' h', Stand p l e R s m args below meth c T' locs (cells + 1) (slots + cap) → T'.heap = h' → Ext h h' → IArr Z h' h.size (.object C) k (fun _ => defaultValue (.object C)) → Takes Z h' h.size C → Wp p e s below Q kc ks (T'.setTop (mkF m pc' Ls (.ref h.size :: st)))) : Wp p e s below Q kc ks (T.setTop (mkF m pc Ls (.int z :: st))) := by
  subst hp
  obtain ⟨q1, q2⟩ := nat_of hz
  obtain ⟨T', h', cA, X', e', E, A, O, stp⟩ := Jvm.RoadKit.newR X hx hZ hown w1 w2 eT (g := mkF m pc Ls (.int z :: st)) rfl hd rfl q1 (cap := cap) (by omega) hb hc hl
  exact Wp.step stp (K T' h' X' e' E (IArr.fresh A q2) ⟨_, _, A, O⟩)
theorem W.aastore (X : Stand p l e R s m args below meth c T locs cells slots) (hx : p.tables.exec = Jvm.exec) (hZ : Z.Warmed39 s.vm) {j : Int32} {v : Value} (pc' : Nat) (i : Nat) (eT : T.heap = h) (A : IArr Z h a ty n f) (hty : ty.isReference = true) (F : Sto Z h a v) (hj : j.toInt = (i : Int)) (hi : i < n) (hd : decode c.code pc = .ok (.aastore, 1)) (hp : pc + 1 = pc')
    (K : ∀ T' h', Stand p l e R s m args below meth c T' (locs ++ [⟨a, i⟩]) cells slots → T'.heap = h' → Wr h h' a i v → IArr Z h' a ty n (upd f i v) → Wp p e s below Q kc ks (T'.setTop (mkF m pc' Ls st))) : Wp p e s below Q kc ks (T.setTop (mkF m pc Ls (v :: .int j :: .ref a :: st))) := by
  subst hp
  obtain ⟨cl, A0, S, H⟩ := A
  obtain ⟨T', h', X', e', W, stp⟩ := stR X hx hZ eT A0 (IArr.inb S hj hi) hty F (g := mkF m pc Ls (v :: .int j :: .ref a :: st)) rfl rfl hd
  rw [(nat_of hj).2] at X' W
  exact Wp.step stp (K T' h' X' e' W (IArr.same ⟨cl, A0, S, H⟩ W))
/-! a virtual call whose method is declared in a superclass -/
theorem W.callU (X : Stand p l e R s m args below meth c T locs cells slots) (hx : p.tables.exec = Jvm.exec) (hZ : Z.Warmed39 s.vm) {own C owner : String} {index : Nat} {y z : MethodName} {bytes : ByteArray} {maxL : Nat} {ret : Option FieldType} {rm : Room} {Qc : Option Value → Heap → List Loc → Prop} {ps : List FieldType} {r : Option FieldType} {stk : List Value} (pc' W : Nat) (b : Addr) (argsL : List Value)
    (hown : s.vm.findClass own = some m.cls) (w1 : (Jvm.Cond.methodLink own index y).before a0 Z = true) (w7 : (Jvm.Cond.sameMethod y.cls owner y.name y.desc).before a0 Z = true) (w2 : (Jvm.Cond.declares ⟨owner, y.name, y.desc⟩).before a0 Z = true) (hy : owner ≠ "java/lang/invoke/MethodHandle" ∧ owner ≠ "java/lang/invoke/VarHandle") (w5 : (Jvm.Cond.selects C y z).before a0 Z = true) (w6 : (Jvm.Cond.instanceMethod z).before a0 Z = true) (w3 : (Jvm.Cond.initialized z.cls).before a0 Z = true) (w4 : (Jvm.Cond.code z bytes maxL ret).before a0 Z = true)
    (hpd : parseMethodDescriptor y.desc = some ⟨ps, r⟩) (hlen : argsL.length = ps.length) (eT : T.heap = h) (E : Exa Z h b C) (hM : Con l Z z bytes maxL ret [] rm (.ref b :: argsL).toArray h Qc) (hd : decode c.code pc = .ok (.invokevirtual index, 3)) (hsz : Ls.size = c.maxLocals) (hstk : stk = argsL.reverse ++ .ref b :: rest) (hW : (rest.map fun v => v.category).sum = W)
    (hf : rm.frames + 1 ≤ R.frames) (hl : W + (maxL + 11) + rm.locals ≤ R.locals) (hc : cells + rm.cells ≤ R.cells) (hsl : slots + rm.slots ≤ R.slots) (hp : pc + 3 = pc')
    (K : ∀ v T' L, Stand p l e R s m args below meth c T' (locs ++ L) (cells + rm.cells) (slots + rm.slots) → Qc v T'.heap L → Wp p e s below Q kc ks (T'.setTop (mkF m pc' Ls (v.toList ++ rest)))) : Wp p e s below Q kc ks (T.setTop (mkF m pc Ls stk)) := by
  subst hp hstk
  obtain ⟨cq, kq, qa, qb, qc⟩ := isOf hZ eT E
  obtain ⟨v, vm₁, ⟨T', L', k', n'⟩, -, X', ⟨Lc, hQ, l1, l2, l3⟩, stp⟩ := X.virtualBackUp hx (x := y) (y := z) (owner := owner) hown (mvT hZ w1) (mvT hZ w7) (mvT hZ w2) hy (mvT hZ w5) (mvT hZ w6) (backOf (W := W) hM hZ w4 w3 hf hl) qa qc (g := mkF m pc Ls (argsL.reverse ++ .ref b :: rest)) rfl hsz (Steps.refl _) (argsL := argsL) (rest := rest) (lenOf hpd hlen) rfl (by show 2 * 0 + _ ≤ _; omega) hd (fun _ _ => ⟨rfl, eT, hc, hsl⟩)
  dsimp only [Pt.U, Pt.locs, Pt.cells, Pt.slots] at X' l1 l2 l3 stp hQ
  subst l1 l2 l3
  exact Wp.chain stp (K v T' Lc X' hQ)
/-! a private instance method -/
theorem W.callP (X : Stand p l e R s m args below meth c T locs cells slots) (hx : p.tables.exec = Jvm.exec) (hZ : Z.Warmed39 s.vm) {own : String} {index : Nat} {y : MethodName} {bytes : ByteArray} {maxL kk : Nat} {ret : Option FieldType} {rm : Room} {Qc : Option Value → Heap → List Loc → Prop} {ps : List FieldType} {r : Option FieldType} {stk : List Value} (pc' W : Nat) (b : Addr) (argsL : List Value)
    (hown : s.vm.findClass own = some m.cls) (w1 : (Jvm.Cond.methodLink own index y).before a0 Z = true) (w2 : (Jvm.Cond.instanceMethod y).before a0 Z = true) (w5 : (Jvm.Cond.privateMethod y).before a0 Z = true) (w6 : (Jvm.Cond.instantiable y.cls kk).before a0 Z = true) (w3 : (Jvm.Cond.initialized y.cls).before a0 Z = true) (w4 : (Jvm.Cond.code y bytes maxL ret).before a0 Z = true) (hy : y.cls ≠ "java/lang/invoke/MethodHandle" ∧ y.cls ≠ "java/lang/invoke/VarHandle")
    (hpd : parseMethodDescriptor y.desc = some ⟨ps, r⟩) (hlen : argsL.length = ps.length) (eT : T.heap = h) {C : String} (E : Exa Z h b C) (hM : Con l Z y bytes maxL ret [] rm (.ref b :: argsL).toArray h Qc) (hd : decode c.code pc = .ok (.invokevirtual index, 3)) (hsz : Ls.size = c.maxLocals) (hstk : stk = argsL.reverse ++ .ref b :: rest) (hW : (rest.map fun v => v.category).sum = W)
    (hf : rm.frames + 1 ≤ R.frames) (hl : W + (maxL + 11) + rm.locals ≤ R.locals) (hc : cells + rm.cells ≤ R.cells) (hsl : slots + rm.slots ≤ R.slots) (hp : pc + 3 = pc')
    (K : ∀ v T' L, Stand p l e R s m args below meth c T' (locs ++ L) (cells + rm.cells) (slots + rm.slots) → Qc v T'.heap L → Wp p e s below Q kc ks (T'.setTop (mkF m pc' Ls (v.toList ++ rest)))) : Wp p e s below Q kc ks (T.setTop (mkF m pc Ls stk)) := by
  subst hp hstk
  obtain ⟨cq, q, q'⟩ := E.cell
  have hpr := Cond.privateMethod_at (mvP hZ w5 (args := args))
  obtain ⟨c2, k2, i1, i2, i3, i4, -⟩ := Cond.instantiable_spec (mvT (args := args) hZ w6)
  have hsel := selects_self_of_private i1 i2 (Bool.or_eq_false_iff.mp i4).1 hpr (mvT (args := args) hZ w2) hy
  obtain ⟨v, vm₁, ⟨T', L', k', n'⟩, -, X', ⟨Lc, hQ, l1, l2, l3⟩, stp⟩ := X.privateBack hx (y := y) hown (mvT hZ w1) (mvT hZ w2) hsel hpr (mvT hZ w4) hy (backOf (W := W) hM hZ w4 w3 hf hl) (g := mkF m pc Ls (argsL.reverse ++ .ref b :: rest)) rfl hsz (Steps.refl _) (a := b) (by rw [eT]; exact q) q' (argsL := argsL) (rest := rest) (lenOf hpd hlen) rfl (by show 2 * 0 + _ ≤ _; omega) hd (fun _ _ => ⟨rfl, eT, hc, hsl⟩)
  dsimp only [Pt.U, Pt.locs, Pt.cells, Pt.slots] at X' l1 l2 l3 stp hQ
  subst l1 l2 l3
  exact Wp.chain stp (K v T' Lc X' hQ)
end W
end Jvm.OwnW
namespace Jvm.Pilot.@@N@@
open Jvm Jvm.ClassFile Sem Op Lib Jvm.Free Jvm.Stand Jvm.LawKit Jvm.RoadKit Jvm.OwnW Bundle Jvm.Pilot.@@N@@.Jvm.D
theorem pd_0 : parseMethodDescriptor "(C)I" = some ⟨[.char], some .int⟩ := by decide +kernel
def own_flag (x : Int32) : Int32 := if x = 105 then 2 else if x = 109 then 8 else if x = 115 then 32 else if x = 100 then 1 else if x = 117 then 64 else if x = 99 then 128 else if x = 120 then 4 else if x = 85 then 320 else 0
def own_exp (x : Int32) : Int32 := if x = 100 then 1 else if x = 105 then 2 else if x = 120 then 4 else if x = 109 then 8 else if x = 115 then 32 else if x = 117 then 64 else if x = 99 then 128 else if x = 85 then 320 else 0
theorem own_fe (x : Int32) : own_flag x = own_exp x := by
  by_cases q105 : x = 105
  · subst q105; decide
  by_cases q109 : x = 109
  · subst q109; decide
  by_cases q115 : x = 115
  · subst q115; decide
  by_cases q100 : x = 100
  · subst q100; decide
  by_cases q117 : x = 117
  · subst q117; decide
  by_cases q99 : x = 99
  · subst q99; decide
  by_cases q120 : x = 120
  · subst q120; decide
  by_cases q85 : x = 85
  · subst q85; decide
  simp only [own_flag, own_exp, if_neg q105, if_neg q109, if_neg q115, if_neg q100, if_neg q117, if_neg q99, if_neg q120, if_neg q85]
theorem own_upd {f : Nat → Value} (h : ∀ j, ∃ b : Int32, f j = .int b) (i : Nat) (x : Int32) : ∀ j, ∃ b : Int32, upd f i (.int x) j = .int b := fun j => by
  by_cases q : j = i
  · exact ⟨x, by rw [q, upd_same]⟩
  · rw [upd_ne q]; exact h j
theorem own_ex {Z : State} {h : Heap} {a : Addr} {ty : FieldType} {n : Nat} {f : Nat → Value} (A : IArr Z h a ty n f) (q : ∀ j, ∃ b : Int32, f j = .int b) (i : Nat) : ∃ b : Int32, f i = .int b := q i
theorem d1_0 : decode prog_30_method_6_code 0 = .ok (.iload_n 0, 1) := by decide +kernel
theorem d1_1 : decode prog_30_method_6_code 1 = .ok (.bipush 105, 2) := by decide +kernel
theorem d1_3 : decode prog_30_method_6_code 3 = .ok (.if_icmp .ne 8, 3) := by decide +kernel
theorem d1_6 : decode prog_30_method_6_code 6 = .ok (.iconst 2, 1) := by decide +kernel
theorem d1_7 : decode prog_30_method_6_code 7 = .ok (.istore_n 1, 1) := by decide +kernel
theorem d1_8 : decode prog_30_method_6_code 8 = .ok (.goto 89, 3) := by decide +kernel
theorem d1_11 : decode prog_30_method_6_code 11 = .ok (.iload_n 0, 1) := by decide +kernel
theorem d1_12 : decode prog_30_method_6_code 12 = .ok (.bipush 109, 2) := by decide +kernel
theorem d1_14 : decode prog_30_method_6_code 14 = .ok (.if_icmp .ne 9, 3) := by decide +kernel
theorem d1_17 : decode prog_30_method_6_code 17 = .ok (.bipush 8, 2) := by decide +kernel
theorem d1_19 : decode prog_30_method_6_code 19 = .ok (.istore_n 1, 1) := by decide +kernel
theorem d1_20 : decode prog_30_method_6_code 20 = .ok (.goto 77, 3) := by decide +kernel
theorem d1_23 : decode prog_30_method_6_code 23 = .ok (.iload_n 0, 1) := by decide +kernel
theorem d1_24 : decode prog_30_method_6_code 24 = .ok (.bipush 115, 2) := by decide +kernel
theorem d1_26 : decode prog_30_method_6_code 26 = .ok (.if_icmp .ne 9, 3) := by decide +kernel
theorem d1_29 : decode prog_30_method_6_code 29 = .ok (.bipush 32, 2) := by decide +kernel
theorem d1_31 : decode prog_30_method_6_code 31 = .ok (.istore_n 1, 1) := by decide +kernel
theorem d1_32 : decode prog_30_method_6_code 32 = .ok (.goto 65, 3) := by decide +kernel
theorem d1_35 : decode prog_30_method_6_code 35 = .ok (.iload_n 0, 1) := by decide +kernel
theorem d1_36 : decode prog_30_method_6_code 36 = .ok (.bipush 100, 2) := by decide +kernel
theorem d1_38 : decode prog_30_method_6_code 38 = .ok (.if_icmp .ne 8, 3) := by decide +kernel
theorem d1_41 : decode prog_30_method_6_code 41 = .ok (.iconst 1, 1) := by decide +kernel
theorem d1_42 : decode prog_30_method_6_code 42 = .ok (.istore_n 1, 1) := by decide +kernel
theorem d1_43 : decode prog_30_method_6_code 43 = .ok (.goto 54, 3) := by decide +kernel
theorem d1_46 : decode prog_30_method_6_code 46 = .ok (.iload_n 0, 1) := by decide +kernel
theorem d1_47 : decode prog_30_method_6_code 47 = .ok (.bipush 117, 2) := by decide +kernel
theorem d1_49 : decode prog_30_method_6_code 49 = .ok (.if_icmp .ne 9, 3) := by decide +kernel
theorem d1_52 : decode prog_30_method_6_code 52 = .ok (.bipush 64, 2) := by decide +kernel
theorem d1_54 : decode prog_30_method_6_code 54 = .ok (.istore_n 1, 1) := by decide +kernel
theorem d1_55 : decode prog_30_method_6_code 55 = .ok (.goto 42, 3) := by decide +kernel
theorem d1_58 : decode prog_30_method_6_code 58 = .ok (.iload_n 0, 1) := by decide +kernel
theorem d1_59 : decode prog_30_method_6_code 59 = .ok (.bipush 99, 2) := by decide +kernel
theorem d1_61 : decode prog_30_method_6_code 61 = .ok (.if_icmp .ne 10, 3) := by decide +kernel
theorem d1_64 : decode prog_30_method_6_code 64 = .ok (.sipush 128, 3) := by decide +kernel
theorem d1_67 : decode prog_30_method_6_code 67 = .ok (.istore_n 1, 1) := by decide +kernel
theorem d1_68 : decode prog_30_method_6_code 68 = .ok (.goto 29, 3) := by decide +kernel
theorem d1_71 : decode prog_30_method_6_code 71 = .ok (.iload_n 0, 1) := by decide +kernel
theorem d1_72 : decode prog_30_method_6_code 72 = .ok (.bipush 120, 2) := by decide +kernel
theorem d1_74 : decode prog_30_method_6_code 74 = .ok (.if_icmp .ne 8, 3) := by decide +kernel
theorem d1_77 : decode prog_30_method_6_code 77 = .ok (.iconst 4, 1) := by decide +kernel
theorem d1_78 : decode prog_30_method_6_code 78 = .ok (.istore_n 1, 1) := by decide +kernel
theorem d1_79 : decode prog_30_method_6_code 79 = .ok (.goto 18, 3) := by decide +kernel
theorem d1_82 : decode prog_30_method_6_code 82 = .ok (.iload_n 0, 1) := by decide +kernel
theorem d1_83 : decode prog_30_method_6_code 83 = .ok (.bipush 85, 2) := by decide +kernel
theorem d1_85 : decode prog_30_method_6_code 85 = .ok (.if_icmp .ne 10, 3) := by decide +kernel
theorem d1_88 : decode prog_30_method_6_code 88 = .ok (.sipush 320, 3) := by decide +kernel
theorem d1_91 : decode prog_30_method_6_code 91 = .ok (.istore_n 1, 1) := by decide +kernel
theorem d1_92 : decode prog_30_method_6_code 92 = .ok (.goto 5, 3) := by decide +kernel
theorem d1_95 : decode prog_30_method_6_code 95 = .ok (.iconst 0, 1) := by decide +kernel
theorem d1_96 : decode prog_30_method_6_code 96 = .ok (.istore_n 1, 1) := by decide +kernel
theorem d1_97 : decode prog_30_method_6_code 97 = .ok (.iload_n 1, 1) := by decide +kernel
theorem d1_98 : decode prog_30_method_6_code 98 = .ok (.ireturn, 1) := by decide +kernel
theorem pn_1 : plainName "com/example/statewright/statewright/model/RegexSyntax" = true := by first | (simp [plainName, overriddenIn]; done) | decide +kernel
theorem ef_rm1 (m : MethodId) (p1 : Int32) : entryFrame m #[(.int p1)] 2 = mkF m 0 #[.val (.int p1), .unset] [] := by first | (simp [entryFrame, mkF, argsToLocals, Value.category]; done) | rfl
set_option maxRecDepth 65536 in
set_option maxHeartbeats 40000000 in
theorem rm1 (l : Launch) (Z : State) (a0 : Array Value) (hw : ∀ d ∈ tables_1, d.before a0 Z = true) (p1 : Int32) (h0 : Heap)  :
    Con l Z (⟨"com/example/statewright/statewright/model/RegexSyntax", "flag", "(C)I"⟩ : MethodName) prog_30_method_6_code 2 (some .int) [] ({ frames := 0, cells := 0, slots := 0, locals := 0 } : Room) #[(.int p1)] h0 (fun v h L => v = some (.int (own_flag p1)) ∧ h = h0 ∧ L = []) := by
  refine Con.of (plainFor_of_name pn_1) ?_
  intro p e s m below meth c s₁ hx hby hml hown hnm hret hlk hZ X0 e0
  refine Wp.enter (ef_rm1 m p1) ?_
  refine W.iloadN X0 hx 1 (hb hby d1_0) rfl rfl ?_
  refine W.bipush X0 hx 3 (105 : Int32) (hb hby d1_1) rfl rfl ?_
  refine W.icmpNe X0 hx 11 6 (hb hby d1_3) (by decide) (by decide) rfl (fun q0 => ?_) (fun q0 => ?_)
  · skip
    refine W.iloadN X0 hx 12 (hb hby d1_11) rfl rfl ?_
    refine W.bipush X0 hx 14 (109 : Int32) (hb hby d1_12) rfl rfl ?_
    refine W.icmpNe X0 hx 23 17 (hb hby d1_14) (by decide) (by decide) rfl (fun q1 => ?_) (fun q1 => ?_)
    · skip
      refine W.iloadN X0 hx 24 (hb hby d1_23) rfl rfl ?_
      refine W.bipush X0 hx 26 (115 : Int32) (hb hby d1_24) rfl rfl ?_
      refine W.icmpNe X0 hx 35 29 (hb hby d1_26) (by decide) (by decide) rfl (fun q2 => ?_) (fun q2 => ?_)
      · skip
        refine W.iloadN X0 hx 36 (hb hby d1_35) rfl rfl ?_
        refine W.bipush X0 hx 38 (100 : Int32) (hb hby d1_36) rfl rfl ?_
        refine W.icmpNe X0 hx 46 41 (hb hby d1_38) (by decide) (by decide) rfl (fun q3 => ?_) (fun q3 => ?_)
        · skip
          refine W.iloadN X0 hx 47 (hb hby d1_46) rfl rfl ?_
          refine W.bipush X0 hx 49 (117 : Int32) (hb hby d1_47) rfl rfl ?_
          refine W.icmpNe X0 hx 58 52 (hb hby d1_49) (by decide) (by decide) rfl (fun q4 => ?_) (fun q4 => ?_)
          · skip
            refine W.iloadN X0 hx 59 (hb hby d1_58) rfl rfl ?_
            refine W.bipush X0 hx 61 (99 : Int32) (hb hby d1_59) rfl rfl ?_
            refine W.icmpNe X0 hx 71 64 (hb hby d1_61) (by decide) (by decide) rfl (fun q5 => ?_) (fun q5 => ?_)
            · skip
              refine W.iloadN X0 hx 72 (hb hby d1_71) rfl rfl ?_
              refine W.bipush X0 hx 74 (120 : Int32) (hb hby d1_72) rfl rfl ?_
              refine W.icmpNe X0 hx 82 77 (hb hby d1_74) (by decide) (by decide) rfl (fun q6 => ?_) (fun q6 => ?_)
              · skip
                refine W.iloadN X0 hx 83 (hb hby d1_82) rfl rfl ?_
                refine W.bipush X0 hx 85 (85 : Int32) (hb hby d1_83) rfl rfl ?_
                refine W.icmpNe X0 hx 95 88 (hb hby d1_85) (by decide) (by decide) rfl (fun q7 => ?_) (fun q7 => ?_)
                · skip
                  refine W.iconst X0 hx 96 (0 : Int32) (hb hby d1_95) rfl rfl ?_
                  refine W.istoreN X0 hx 97 #[.val (.int p1), .val (.int (0 : Int32))] (hb hby d1_96) rfl rfl ?_
                  refine W.iloadN X0 hx 98 (hb hby d1_97) rfl rfl ?_
                  refine W.iret X0 hx hlk hret (hb hby d1_98) (by decide) (by decide) ?_
                  exact ⟨by simp only [own_flag, if_neg q0, if_neg q1, if_neg q2, if_neg q3, if_neg q4, if_neg q5, if_neg q6, if_neg q7], e0, rfl⟩
                · skip
                  refine W.sipush X0 hx 91 (320 : Int32) (hb hby d1_88) rfl rfl ?_
                  refine W.istoreN X0 hx 92 #[.val (.int p1), .val (.int (320 : Int32))] (hb hby d1_91) rfl rfl ?_
                  refine W.goto X0 hx 97 (hb hby d1_92) (by decide) (by decide) ?_
                  refine W.iloadN X0 hx 98 (hb hby d1_97) rfl rfl ?_
                  refine W.iret X0 hx hlk hret (hb hby d1_98) (by decide) (by decide) ?_
                  exact ⟨by simp only [own_flag, if_neg q0, if_neg q1, if_neg q2, if_neg q3, if_neg q4, if_neg q5, if_neg q6, if_pos q7], e0, rfl⟩
              · skip
                refine W.iconst X0 hx 78 (4 : Int32) (hb hby d1_77) rfl rfl ?_
                refine W.istoreN X0 hx 79 #[.val (.int p1), .val (.int (4 : Int32))] (hb hby d1_78) rfl rfl ?_
                refine W.goto X0 hx 97 (hb hby d1_79) (by decide) (by decide) ?_
                refine W.iloadN X0 hx 98 (hb hby d1_97) rfl rfl ?_
                refine W.iret X0 hx hlk hret (hb hby d1_98) (by decide) (by decide) ?_
                exact ⟨by simp only [own_flag, if_neg q0, if_neg q1, if_neg q2, if_neg q3, if_neg q4, if_neg q5, if_pos q6], e0, rfl⟩
            · skip
              refine W.sipush X0 hx 67 (128 : Int32) (hb hby d1_64) rfl rfl ?_
              refine W.istoreN X0 hx 68 #[.val (.int p1), .val (.int (128 : Int32))] (hb hby d1_67) rfl rfl ?_
              refine W.goto X0 hx 97 (hb hby d1_68) (by decide) (by decide) ?_
              refine W.iloadN X0 hx 98 (hb hby d1_97) rfl rfl ?_
              refine W.iret X0 hx hlk hret (hb hby d1_98) (by decide) (by decide) ?_
              exact ⟨by simp only [own_flag, if_neg q0, if_neg q1, if_neg q2, if_neg q3, if_neg q4, if_pos q5], e0, rfl⟩
          · skip
            refine W.bipush X0 hx 54 (64 : Int32) (hb hby d1_52) rfl rfl ?_
            refine W.istoreN X0 hx 55 #[.val (.int p1), .val (.int (64 : Int32))] (hb hby d1_54) rfl rfl ?_
            refine W.goto X0 hx 97 (hb hby d1_55) (by decide) (by decide) ?_
            refine W.iloadN X0 hx 98 (hb hby d1_97) rfl rfl ?_
            refine W.iret X0 hx hlk hret (hb hby d1_98) (by decide) (by decide) ?_
            exact ⟨by simp only [own_flag, if_neg q0, if_neg q1, if_neg q2, if_neg q3, if_pos q4], e0, rfl⟩
        · skip
          refine W.iconst X0 hx 42 (1 : Int32) (hb hby d1_41) rfl rfl ?_
          refine W.istoreN X0 hx 43 #[.val (.int p1), .val (.int (1 : Int32))] (hb hby d1_42) rfl rfl ?_
          refine W.goto X0 hx 97 (hb hby d1_43) (by decide) (by decide) ?_
          refine W.iloadN X0 hx 98 (hb hby d1_97) rfl rfl ?_
          refine W.iret X0 hx hlk hret (hb hby d1_98) (by decide) (by decide) ?_
          exact ⟨by simp only [own_flag, if_neg q0, if_neg q1, if_neg q2, if_pos q3], e0, rfl⟩
      · skip
        refine W.bipush X0 hx 31 (32 : Int32) (hb hby d1_29) rfl rfl ?_
        refine W.istoreN X0 hx 32 #[.val (.int p1), .val (.int (32 : Int32))] (hb hby d1_31) rfl rfl ?_
        refine W.goto X0 hx 97 (hb hby d1_32) (by decide) (by decide) ?_
        refine W.iloadN X0 hx 98 (hb hby d1_97) rfl rfl ?_
        refine W.iret X0 hx hlk hret (hb hby d1_98) (by decide) (by decide) ?_
        exact ⟨by simp only [own_flag, if_neg q0, if_neg q1, if_pos q2], e0, rfl⟩
    · skip
      refine W.bipush X0 hx 19 (8 : Int32) (hb hby d1_17) rfl rfl ?_
      refine W.istoreN X0 hx 20 #[.val (.int p1), .val (.int (8 : Int32))] (hb hby d1_19) rfl rfl ?_
      refine W.goto X0 hx 97 (hb hby d1_20) (by decide) (by decide) ?_
      refine W.iloadN X0 hx 98 (hb hby d1_97) rfl rfl ?_
      refine W.iret X0 hx hlk hret (hb hby d1_98) (by decide) (by decide) ?_
      exact ⟨by simp only [own_flag, if_neg q0, if_pos q1], e0, rfl⟩
  · skip
    refine W.iconst X0 hx 7 (2 : Int32) (hb hby d1_6) rfl rfl ?_
    refine W.istoreN X0 hx 8 #[.val (.int p1), .val (.int (2 : Int32))] (hb hby d1_7) rfl rfl ?_
    refine W.goto X0 hx 97 (hb hby d1_8) (by decide) (by decide) ?_
    refine W.iloadN X0 hx 98 (hb hby d1_97) rfl rfl ?_
    refine W.iret X0 hx hlk hret (hb hby d1_98) (by decide) (by decide) ?_
    exact ⟨by simp only [own_flag, if_pos q0], e0, rfl⟩
theorem d2_0 : decode method_3_code 0 = .ok (.iload_n 0, 1) := by decide +kernel
theorem d2_1 : decode method_3_code 1 = .ok (.bipush 100, 2) := by decide +kernel
theorem d2_3 : decode method_3_code 3 = .ok (.if_icmp .ne 5, 3) := by decide +kernel
theorem d2_6 : decode method_3_code 6 = .ok (.iconst 1, 1) := by decide +kernel
theorem d2_7 : decode method_3_code 7 = .ok (.ireturn, 1) := by decide +kernel
theorem d2_8 : decode method_3_code 8 = .ok (.iload_n 0, 1) := by decide +kernel
theorem d2_9 : decode method_3_code 9 = .ok (.bipush 105, 2) := by decide +kernel
theorem d2_11 : decode method_3_code 11 = .ok (.if_icmp .ne 5, 3) := by decide +kernel
theorem d2_14 : decode method_3_code 14 = .ok (.iconst 2, 1) := by decide +kernel
theorem d2_15 : decode method_3_code 15 = .ok (.ireturn, 1) := by decide +kernel
theorem d2_16 : decode method_3_code 16 = .ok (.iload_n 0, 1) := by decide +kernel
theorem d2_17 : decode method_3_code 17 = .ok (.bipush 120, 2) := by decide +kernel
theorem d2_19 : decode method_3_code 19 = .ok (.if_icmp .ne 5, 3) := by decide +kernel
theorem d2_22 : decode method_3_code 22 = .ok (.iconst 4, 1) := by decide +kernel
theorem d2_23 : decode method_3_code 23 = .ok (.ireturn, 1) := by decide +kernel
theorem d2_24 : decode method_3_code 24 = .ok (.iload_n 0, 1) := by decide +kernel
theorem d2_25 : decode method_3_code 25 = .ok (.bipush 109, 2) := by decide +kernel
theorem d2_27 : decode method_3_code 27 = .ok (.if_icmp .ne 6, 3) := by decide +kernel
theorem d2_30 : decode method_3_code 30 = .ok (.bipush 8, 2) := by decide +kernel
theorem d2_32 : decode method_3_code 32 = .ok (.ireturn, 1) := by decide +kernel
theorem d2_33 : decode method_3_code 33 = .ok (.iload_n 0, 1) := by decide +kernel
theorem d2_34 : decode method_3_code 34 = .ok (.bipush 115, 2) := by decide +kernel
theorem d2_36 : decode method_3_code 36 = .ok (.if_icmp .ne 6, 3) := by decide +kernel
theorem d2_39 : decode method_3_code 39 = .ok (.bipush 32, 2) := by decide +kernel
theorem d2_41 : decode method_3_code 41 = .ok (.ireturn, 1) := by decide +kernel
theorem d2_42 : decode method_3_code 42 = .ok (.iload_n 0, 1) := by decide +kernel
theorem d2_43 : decode method_3_code 43 = .ok (.bipush 117, 2) := by decide +kernel
theorem d2_45 : decode method_3_code 45 = .ok (.if_icmp .ne 6, 3) := by decide +kernel
theorem d2_48 : decode method_3_code 48 = .ok (.bipush 64, 2) := by decide +kernel
theorem d2_50 : decode method_3_code 50 = .ok (.ireturn, 1) := by decide +kernel
theorem d2_51 : decode method_3_code 51 = .ok (.iload_n 0, 1) := by decide +kernel
theorem d2_52 : decode method_3_code 52 = .ok (.bipush 99, 2) := by decide +kernel
theorem d2_54 : decode method_3_code 54 = .ok (.if_icmp .ne 7, 3) := by decide +kernel
theorem d2_57 : decode method_3_code 57 = .ok (.sipush 128, 3) := by decide +kernel
theorem d2_60 : decode method_3_code 60 = .ok (.ireturn, 1) := by decide +kernel
theorem d2_61 : decode method_3_code 61 = .ok (.iload_n 0, 1) := by decide +kernel
theorem d2_62 : decode method_3_code 62 = .ok (.bipush 85, 2) := by decide +kernel
theorem d2_64 : decode method_3_code 64 = .ok (.if_icmp .ne 7, 3) := by decide +kernel
theorem d2_67 : decode method_3_code 67 = .ok (.sipush 320, 3) := by decide +kernel
theorem d2_70 : decode method_3_code 70 = .ok (.ireturn, 1) := by decide +kernel
theorem d2_71 : decode method_3_code 71 = .ok (.iconst 0, 1) := by decide +kernel
theorem d2_72 : decode method_3_code 72 = .ok (.ireturn, 1) := by decide +kernel
theorem pn_2 : plainName "com/example/statewright/statewright/model/RegexSyntaxFlagPinLaw" = true := by first | (simp [plainName, overriddenIn]; done) | decide +kernel
theorem ef_rm2 (m : MethodId) (p1 : Int32) : entryFrame m #[(.int p1)] 1 = mkF m 0 #[.val (.int p1)] [] := by first | (simp [entryFrame, mkF, argsToLocals, Value.category]; done) | rfl
set_option maxRecDepth 65536 in
set_option maxHeartbeats 40000000 in
theorem rm2 (l : Launch) (Z : State) (a0 : Array Value) (hw : ∀ d ∈ tables_1, d.before a0 Z = true) (p1 : Int32) (h0 : Heap)  :
    Con l Z (⟨"com/example/statewright/statewright/model/RegexSyntaxFlagPinLaw", "expected", "(C)I"⟩ : MethodName) method_3_code 1 (some .int) [] ({ frames := 0, cells := 0, slots := 0, locals := 0 } : Room) #[(.int p1)] h0 (fun v h L => v = some (.int (own_exp p1)) ∧ h = h0 ∧ L = []) := by
  refine Con.of (plainFor_of_name pn_2) ?_
  intro p e s m below meth c s₁ hx hby hml hown hnm hret hlk hZ X0 e0
  refine Wp.enter (ef_rm2 m p1) ?_
  refine W.iloadN X0 hx 1 (hb hby d2_0) rfl rfl ?_
  refine W.bipush X0 hx 3 (100 : Int32) (hb hby d2_1) rfl rfl ?_
  refine W.icmpNe X0 hx 8 6 (hb hby d2_3) (by decide) (by decide) rfl (fun q0 => ?_) (fun q0 => ?_)
  · skip
    refine W.iloadN X0 hx 9 (hb hby d2_8) rfl rfl ?_
    refine W.bipush X0 hx 11 (105 : Int32) (hb hby d2_9) rfl rfl ?_
    refine W.icmpNe X0 hx 16 14 (hb hby d2_11) (by decide) (by decide) rfl (fun q1 => ?_) (fun q1 => ?_)
    · skip
      refine W.iloadN X0 hx 17 (hb hby d2_16) rfl rfl ?_
      refine W.bipush X0 hx 19 (120 : Int32) (hb hby d2_17) rfl rfl ?_
      refine W.icmpNe X0 hx 24 22 (hb hby d2_19) (by decide) (by decide) rfl (fun q2 => ?_) (fun q2 => ?_)
      · skip
        refine W.iloadN X0 hx 25 (hb hby d2_24) rfl rfl ?_
        refine W.bipush X0 hx 27 (109 : Int32) (hb hby d2_25) rfl rfl ?_
        refine W.icmpNe X0 hx 33 30 (hb hby d2_27) (by decide) (by decide) rfl (fun q3 => ?_) (fun q3 => ?_)
        · skip
          refine W.iloadN X0 hx 34 (hb hby d2_33) rfl rfl ?_
          refine W.bipush X0 hx 36 (115 : Int32) (hb hby d2_34) rfl rfl ?_
          refine W.icmpNe X0 hx 42 39 (hb hby d2_36) (by decide) (by decide) rfl (fun q4 => ?_) (fun q4 => ?_)
          · skip
            refine W.iloadN X0 hx 43 (hb hby d2_42) rfl rfl ?_
            refine W.bipush X0 hx 45 (117 : Int32) (hb hby d2_43) rfl rfl ?_
            refine W.icmpNe X0 hx 51 48 (hb hby d2_45) (by decide) (by decide) rfl (fun q5 => ?_) (fun q5 => ?_)
            · skip
              refine W.iloadN X0 hx 52 (hb hby d2_51) rfl rfl ?_
              refine W.bipush X0 hx 54 (99 : Int32) (hb hby d2_52) rfl rfl ?_
              refine W.icmpNe X0 hx 61 57 (hb hby d2_54) (by decide) (by decide) rfl (fun q6 => ?_) (fun q6 => ?_)
              · skip
                refine W.iloadN X0 hx 62 (hb hby d2_61) rfl rfl ?_
                refine W.bipush X0 hx 64 (85 : Int32) (hb hby d2_62) rfl rfl ?_
                refine W.icmpNe X0 hx 71 67 (hb hby d2_64) (by decide) (by decide) rfl (fun q7 => ?_) (fun q7 => ?_)
                · skip
                  refine W.iconst X0 hx 72 (0 : Int32) (hb hby d2_71) rfl rfl ?_
                  refine W.iret X0 hx hlk hret (hb hby d2_72) (by decide) (by decide) ?_
                  exact ⟨by simp only [own_exp, if_neg q0, if_neg q1, if_neg q2, if_neg q3, if_neg q4, if_neg q5, if_neg q6, if_neg q7], e0, rfl⟩
                · skip
                  refine W.sipush X0 hx 70 (320 : Int32) (hb hby d2_67) rfl rfl ?_
                  refine W.iret X0 hx hlk hret (hb hby d2_70) (by decide) (by decide) ?_
                  exact ⟨by simp only [own_exp, if_neg q0, if_neg q1, if_neg q2, if_neg q3, if_neg q4, if_neg q5, if_neg q6, if_pos q7], e0, rfl⟩
              · skip
                refine W.sipush X0 hx 60 (128 : Int32) (hb hby d2_57) rfl rfl ?_
                refine W.iret X0 hx hlk hret (hb hby d2_60) (by decide) (by decide) ?_
                exact ⟨by simp only [own_exp, if_neg q0, if_neg q1, if_neg q2, if_neg q3, if_neg q4, if_neg q5, if_pos q6], e0, rfl⟩
            · skip
              refine W.bipush X0 hx 50 (64 : Int32) (hb hby d2_48) rfl rfl ?_
              refine W.iret X0 hx hlk hret (hb hby d2_50) (by decide) (by decide) ?_
              exact ⟨by simp only [own_exp, if_neg q0, if_neg q1, if_neg q2, if_neg q3, if_neg q4, if_pos q5], e0, rfl⟩
          · skip
            refine W.bipush X0 hx 41 (32 : Int32) (hb hby d2_39) rfl rfl ?_
            refine W.iret X0 hx hlk hret (hb hby d2_41) (by decide) (by decide) ?_
            exact ⟨by simp only [own_exp, if_neg q0, if_neg q1, if_neg q2, if_neg q3, if_pos q4], e0, rfl⟩
        · skip
          refine W.bipush X0 hx 32 (8 : Int32) (hb hby d2_30) rfl rfl ?_
          refine W.iret X0 hx hlk hret (hb hby d2_32) (by decide) (by decide) ?_
          exact ⟨by simp only [own_exp, if_neg q0, if_neg q1, if_neg q2, if_pos q3], e0, rfl⟩
      · skip
        refine W.iconst X0 hx 23 (4 : Int32) (hb hby d2_22) rfl rfl ?_
        refine W.iret X0 hx hlk hret (hb hby d2_23) (by decide) (by decide) ?_
        exact ⟨by simp only [own_exp, if_neg q0, if_neg q1, if_pos q2], e0, rfl⟩
    · skip
      refine W.iconst X0 hx 15 (2 : Int32) (hb hby d2_14) rfl rfl ?_
      refine W.iret X0 hx hlk hret (hb hby d2_15) (by decide) (by decide) ?_
      exact ⟨by simp only [own_exp, if_neg q0, if_pos q1], e0, rfl⟩
  · skip
    refine W.iconst X0 hx 7 (1 : Int32) (hb hby d2_6) rfl rfl ?_
    refine W.iret X0 hx hlk hret (hb hby d2_7) (by decide) (by decide) ?_
    exact ⟨by simp only [own_exp, if_pos q0], e0, rfl⟩
theorem pn_0 : plainName "com/example/statewright/statewright/model/RegexSyntaxFlagPinLaw" = true := by first | (simp [plainName, overriddenIn]; done) | decide +kernel
theorem ef_rm0 (m : MethodId) (p1 : Int32) (p2 : Int32) : entryFrame m #[(.int p1), (.int p2)] maxLocals = mkF m 0 #[.val (.int p1), .val (.int p2), .unset, .unset, .unset] [] := by first | (simp [entryFrame, mkF, argsToLocals, Value.category, maxLocals]; done) | rfl
set_option maxRecDepth 65536 in
set_option maxHeartbeats 40000000 in
theorem rm0 (l : Launch) (Z : State) (a0 : Array Value) (hw : ∀ d ∈ tables_1, d.before a0 Z = true) (ws : List Jvm.Cond) (p1 p2 : Int32) (h0 : Heap) (n0 : Nat) (Z0 : n0 ≤ h0.size)  :
    Con l Z x code maxLocals ret ws room_1 #[(.int p1), (.int p2)] h0 (fun v h L => v = some (.int 1) ∧ Fr n0 L) := by
  refine Con.of (plainFor_of_name pn_0) ?_
  intro p e s m below meth c s₁ hx hby hml hown hnm hret hlk hZ X0 e0
  refine Wp.enter (ef_rm0 m p1 p2) ?_
  refine W.bipush X0 hx 2 (16 : Int32) (hb hby at_0) rfl rfl ?_
  refine W.newarr X0 hx hZ 4 16 16 (hw _ (List.mem_of_getElem? (i := 0) rfl)) e0 (hb hby at_2) (by decide) (by decide) (by decide) (by decide) (by decide) rfl ?_
  intro T1 h1 X1 e1 E1 A
  obtain ⟨a1, q1⟩ : ∃ z, z = h0.size := ⟨_, rfl⟩
  rw [← q1] at A ⊢
  have ge_a1 : n0 ≤ a1 := by have := Z0; omega
  have z1 : n0 ≤ h1.size := Nat.le_trans Z0 E1.1
  refine W.dup X1 hx 5 (hb hby at_4) rfl rfl ?_
  refine W.iconst X1 hx 6 (0 : Int32) (hb hby at_5) rfl rfl ?_
  refine W.bipush X1 hx 8 (105 : Int32) (hb hby at_6) rfl rfl ?_
  refine W.castore X1 hx hZ 9 0 e1 A (by decide) (by decide) (hb hby at_8) rfl ?_
  intro T2 h2 X2 e2 W2 A
  have z2 : n0 ≤ h2.size := by rw [W2.size]; exact z1
  refine W.dup X2 hx 10 (hb hby at_9) rfl rfl ?_
  refine W.iconst X2 hx 11 (1 : Int32) (hb hby at_10) rfl rfl ?_
  refine W.bipush X2 hx 13 (109 : Int32) (hb hby at_11) rfl rfl ?_
  refine W.castore X2 hx hZ 14 1 e2 A (by decide) (by decide) (hb hby at_13) rfl ?_
  intro T3 h3 X3 e3 W3 A
  have z3 : n0 ≤ h3.size := by rw [W3.size]; exact z2
  refine W.dup X3 hx 15 (hb hby at_14) rfl rfl ?_
  refine W.iconst X3 hx 16 (2 : Int32) (hb hby at_15) rfl rfl ?_
  refine W.bipush X3 hx 18 (115 : Int32) (hb hby at_16) rfl rfl ?_
  refine W.castore X3 hx hZ 19 2 e3 A (by decide) (by decide) (hb hby at_18) rfl ?_
  intro T4 h4 X4 e4 W4 A
  have z4 : n0 ≤ h4.size := by rw [W4.size]; exact z3
  refine W.dup X4 hx 20 (hb hby at_19) rfl rfl ?_
  refine W.iconst X4 hx 21 (3 : Int32) (hb hby at_20) rfl rfl ?_
  refine W.bipush X4 hx 23 (100 : Int32) (hb hby at_21) rfl rfl ?_
  refine W.castore X4 hx hZ 24 3 e4 A (by decide) (by decide) (hb hby at_23) rfl ?_
  intro T5 h5 X5 e5 W5 A
  have z5 : n0 ≤ h5.size := by rw [W5.size]; exact z4
  refine W.dup X5 hx 25 (hb hby at_24) rfl rfl ?_
  refine W.iconst X5 hx 26 (4 : Int32) (hb hby at_25) rfl rfl ?_
  refine W.bipush X5 hx 28 (117 : Int32) (hb hby at_26) rfl rfl ?_
  refine W.castore X5 hx hZ 29 4 e5 A (by decide) (by decide) (hb hby at_28) rfl ?_
  intro T6 h6 X6 e6 W6 A
  have z6 : n0 ≤ h6.size := by rw [W6.size]; exact z5
  refine W.dup X6 hx 30 (hb hby at_29) rfl rfl ?_
  refine W.iconst X6 hx 31 (5 : Int32) (hb hby at_30) rfl rfl ?_
  refine W.bipush X6 hx 33 (99 : Int32) (hb hby at_31) rfl rfl ?_
  refine W.castore X6 hx hZ 34 5 e6 A (by decide) (by decide) (hb hby at_33) rfl ?_
  intro T7 h7 X7 e7 W7 A
  have z7 : n0 ≤ h7.size := by rw [W7.size]; exact z6
  refine W.dup X7 hx 35 (hb hby at_34) rfl rfl ?_
  refine W.bipush X7 hx 37 (6 : Int32) (hb hby at_35) rfl rfl ?_
  refine W.bipush X7 hx 39 (120 : Int32) (hb hby at_37) rfl rfl ?_
  refine W.castore X7 hx hZ 40 6 e7 A (by decide) (by decide) (hb hby at_39) rfl ?_
  intro T8 h8 X8 e8 W8 A
  have z8 : n0 ≤ h8.size := by rw [W8.size]; exact z7
  refine W.dup X8 hx 41 (hb hby at_40) rfl rfl ?_
  refine W.bipush X8 hx 43 (7 : Int32) (hb hby at_41) rfl rfl ?_
  refine W.bipush X8 hx 45 (85 : Int32) (hb hby at_43) rfl rfl ?_
  refine W.castore X8 hx hZ 46 7 e8 A (by decide) (by decide) (hb hby at_45) rfl ?_
  intro T9 h9 X9 e9 W9 A
  have z9 : n0 ≤ h9.size := by rw [W9.size]; exact z8
  refine W.dup X9 hx 47 (hb hby at_46) rfl rfl ?_
  refine W.bipush X9 hx 49 (8 : Int32) (hb hby at_47) rfl rfl ?_
  refine W.bipush X9 hx 51 (73 : Int32) (hb hby at_49) rfl rfl ?_
  refine W.castore X9 hx hZ 52 8 e9 A (by decide) (by decide) (hb hby at_51) rfl ?_
  intro T10 h10 X10 e10 W10 A
  have z10 : n0 ≤ h10.size := by rw [W10.size]; exact z9
  refine W.dup X10 hx 53 (hb hby at_52) rfl rfl ?_
  refine W.bipush X10 hx 55 (9 : Int32) (hb hby at_53) rfl rfl ?_
  refine W.bipush X10 hx 57 (77 : Int32) (hb hby at_55) rfl rfl ?_
  refine W.castore X10 hx hZ 58 9 e10 A (by decide) (by decide) (hb hby at_57) rfl ?_
  intro T11 h11 X11 e11 W11 A
  have z11 : n0 ≤ h11.size := by rw [W11.size]; exact z10
  refine W.dup X11 hx 59 (hb hby at_58) rfl rfl ?_
  refine W.bipush X11 hx 61 (10 : Int32) (hb hby at_59) rfl rfl ?_
  refine W.bipush X11 hx 63 (83 : Int32) (hb hby at_61) rfl rfl ?_
  refine W.castore X11 hx hZ 64 10 e11 A (by decide) (by decide) (hb hby at_63) rfl ?_
  intro T12 h12 X12 e12 W12 A
  have z12 : n0 ≤ h12.size := by rw [W12.size]; exact z11
  refine W.dup X12 hx 65 (hb hby at_64) rfl rfl ?_
  refine W.bipush X12 hx 67 (11 : Int32) (hb hby at_65) rfl rfl ?_
  refine W.bipush X12 hx 69 (68 : Int32) (hb hby at_67) rfl rfl ?_
  refine W.castore X12 hx hZ 70 11 e12 A (by decide) (by decide) (hb hby at_69) rfl ?_
  intro T13 h13 X13 e13 W13 A
  have z13 : n0 ≤ h13.size := by rw [W13.size]; exact z12
  refine W.dup X13 hx 71 (hb hby at_70) rfl rfl ?_
  refine W.bipush X13 hx 73 (12 : Int32) (hb hby at_71) rfl rfl ?_
  refine W.bipush X13 hx 75 (67 : Int32) (hb hby at_73) rfl rfl ?_
  refine W.castore X13 hx hZ 76 12 e13 A (by decide) (by decide) (hb hby at_75) rfl ?_
  intro T14 h14 X14 e14 W14 A
  have z14 : n0 ≤ h14.size := by rw [W14.size]; exact z13
  refine W.dup X14 hx 77 (hb hby at_76) rfl rfl ?_
  refine W.bipush X14 hx 79 (13 : Int32) (hb hby at_77) rfl rfl ?_
  refine W.bipush X14 hx 81 (88 : Int32) (hb hby at_79) rfl rfl ?_
  refine W.castore X14 hx hZ 82 13 e14 A (by decide) (by decide) (hb hby at_81) rfl ?_
  intro T15 h15 X15 e15 W15 A
  have z15 : n0 ≤ h15.size := by rw [W15.size]; exact z14
  refine W.dup X15 hx 83 (hb hby at_82) rfl rfl ?_
  refine W.bipush X15 hx 85 (14 : Int32) (hb hby at_83) rfl rfl ?_
  refine W.bipush X15 hx 87 (45 : Int32) (hb hby at_85) rfl rfl ?_
  refine W.castore X15 hx hZ 88 14 e15 A (by decide) (by decide) (hb hby at_87) rfl ?_
  intro T16 h16 X16 e16 W16 A
  have z16 : n0 ≤ h16.size := by rw [W16.size]; exact z15
  refine W.dup X16 hx 89 (hb hby at_88) rfl rfl ?_
  refine W.bipush X16 hx 91 (15 : Int32) (hb hby at_89) rfl rfl ?_
  refine W.bipush X16 hx 93 (97 : Int32) (hb hby at_91) rfl rfl ?_
  refine W.castore X16 hx hZ 94 15 e16 A (by decide) (by decide) (hb hby at_93) rfl ?_
  intro T17 h17 X17 e17 W17 A
  have z17 : n0 ≤ h17.size := by rw [W17.size]; exact z16
  refine W.astoreN X17 hx 95 #[.val (.int p1), .val (.int p2), .val (.ref a1), .unset, .unset] (hb hby at_94) rfl rfl rfl ?_
  refine W.iloadN X17 hx 96 (hb hby at_95) rfl rfl ?_
  refine W.i2c X17 hx 97 (hb hby at_96) rfl ?_
  refine W.istoreN X17 hx 98 #[.val (.int p1), .val (.int p2), .val (.ref a1), .val (.int (p1).toUInt32.toUInt16.toUInt32.toInt32), .unset] (hb hby at_97) rfl rfl ?_
  refine W.aloadN X17 hx 99 (hb hby at_98) rfl rfl rfl ?_
  refine W.iloadN X17 hx 100 (hb hby at_99) rfl rfl ?_
  refine W.bipush X17 hx 102 (15 : Int32) (hb hby at_100) rfl rfl ?_
  refine W.iand X17 hx 103 (hb hby at_102) rfl ?_
  obtain ⟨n, hn, en⟩ := own_and p2 15 (by decide)
  have hn' : n < 16 := by have e : (15 : Int32).toInt = 15 := rfl; omega
  obtain ⟨b, hb0⟩ := own_ex A (own_upd (own_upd (own_upd (own_upd (own_upd (own_upd (own_upd (own_upd (own_upd (own_upd (own_upd (own_upd (own_upd (own_upd (own_upd (own_upd (fun _ => ⟨0, rfl⟩) 0 _) 1 _) 2 _) 3 _) 4 _) 5 _) 6 _) 7 _) 8 _) 9 _) 10 _) 11 _) 12 _) 13 _) 14 _) 15 _) n
  refine W.caload X17 hx hZ 104 n (.int b) e17 A en hn' hb0 (hb hby at_103) rfl ?_
  refine W.istore X17 hx 106 #[.val (.int p1), .val (.int p2), .val (.ref a1), .val (.int (p1).toUInt32.toUInt16.toUInt32.toInt32), .val (.int b)] (hb hby at_104) rfl rfl ?_
  refine W.iloadN X17 hx 107 (hb hby at_106) rfl rfl ?_
  refine W.callS X17 hx hZ 110 0 [(.int (p1).toUInt32.toUInt16.toUInt32.toInt32)] hown (hw _ (List.mem_of_getElem? (i := 1) rfl)) (hw _ (List.mem_of_getElem? (i := 2) rfl)) (hw _ (List.mem_of_getElem? (i := 3) rfl)) (hw _ (List.mem_of_getElem? (i := 4) rfl)) (by decide) pd_0 rfl e17 (rm1 l Z a0 hw (p1).toUInt32.toUInt16.toUInt32.toInt32 h17) (hb hby at_107) (by rw [hml]; rfl) rfl rfl (by decide) (by decide) (by decide) (by decide) rfl ?_
  rintro v18 T18 L18 X18 ⟨rfl, e18, rfl⟩
  refine W.iloadN X18 hx 111 (hb hby at_110) rfl rfl ?_
  refine W.callS X18 hx hZ 114 1 [(.int (p1).toUInt32.toUInt16.toUInt32.toInt32)] hown (hw _ (List.mem_of_getElem? (i := 5) rfl)) (hw _ (List.mem_of_getElem? (i := 6) rfl)) (hw _ (List.mem_of_getElem? (i := 7) rfl)) (hw _ (List.mem_of_getElem? (i := 8) rfl)) (by decide) pd_0 rfl e18 (rm2 l Z a0 hw (p1).toUInt32.toUInt16.toUInt32.toInt32 h17) (hb hby at_111) (by rw [hml]; rfl) rfl rfl (by decide) (by decide) (by decide) (by decide) rfl ?_
  rintro v19 T19 L19 X19 ⟨rfl, e19, rfl⟩
  refine W.icmpNe X19 hx 134 117 (hb hby at_114) (by decide) (by decide) rfl (fun q => ?_) (fun q => ?_)
  · exact absurd (own_fe _) q
  · skip
    refine W.iload X19 hx 119 (hb hby at_117) rfl rfl ?_
    refine W.callS X19 hx hZ 122 0 [(.int b)] hown (hw _ (List.mem_of_getElem? (i := 1) rfl)) (hw _ (List.mem_of_getElem? (i := 2) rfl)) (hw _ (List.mem_of_getElem? (i := 3) rfl)) (hw _ (List.mem_of_getElem? (i := 4) rfl)) (by decide) pd_0 rfl e19 (rm1 l Z a0 hw b h17) (hb hby at_119) (by rw [hml]; rfl) rfl rfl (by decide) (by decide) (by decide) (by decide) rfl ?_
    rintro v20 T20 L20 X20 ⟨rfl, e20, rfl⟩
    refine W.iload X20 hx 124 (hb hby at_122) rfl rfl ?_
    refine W.callS X20 hx hZ 127 1 [(.int b)] hown (hw _ (List.mem_of_getElem? (i := 5) rfl)) (hw _ (List.mem_of_getElem? (i := 6) rfl)) (hw _ (List.mem_of_getElem? (i := 7) rfl)) (hw _ (List.mem_of_getElem? (i := 8) rfl)) (by decide) pd_0 rfl e20 (rm2 l Z a0 hw b h17) (hb hby at_124) (by rw [hml]; rfl) rfl rfl (by decide) (by decide) (by decide) (by decide) rfl ?_
    rintro v21 T21 L21 X21 ⟨rfl, e21, rfl⟩
    refine W.icmpNe X21 hx 134 130 (hb hby at_127) (by decide) (by decide) rfl (fun q => ?_) (fun q => ?_)
    · exact absurd (own_fe _) q
    · skip
      refine W.iconst X21 hx 131 (1 : Int32) (hb hby at_130) rfl rfl ?_
      refine W.goto X21 hx 135 (hb hby at_131) (by decide) (by decide) ?_
      refine W.nret X21 hx hlk (t := .boolean) hret (by simp) (hb hby at_135) (by decide) (by decide) ?_
      exact ⟨rfl, (Fr.app (Fr.app (Fr.app (Fr.app (Fr.app (Fr.app (Fr.app (Fr.app (Fr.app (Fr.app (Fr.app (Fr.app (Fr.app (Fr.app (Fr.app (Fr.app (Fr.app (Fr.app (Fr.app (Fr.app (Fr.nil _) (fr1 ge_a1)) (fr1 ge_a1)) (fr1 ge_a1)) (fr1 ge_a1)) (fr1 ge_a1)) (fr1 ge_a1)) (fr1 ge_a1)) (fr1 ge_a1)) (fr1 ge_a1)) (fr1 ge_a1)) (fr1 ge_a1)) (fr1 ge_a1)) (fr1 ge_a1)) (fr1 ge_a1)) (fr1 ge_a1)) (fr1 ge_a1)) (Fr.nil _)) (Fr.nil _)) (Fr.nil _)) (Fr.nil _))⟩
set_option maxRecDepth 65536 in
set_option maxHeartbeats 40000000 in
theorem comes_1 {Post : Tables → Env → Array Value → State → Outcome → State → Prop} (hpost : ∀ tb e args s v u, (limb_1_1.after args s (.returned v) u = true ∧ limb_1_2.after args s (.returned v) u = true ∧ True) → FrameEnd s (.returned v) u (Jvm.fieldLocs frame_1_writes args s ++ Jvm.arrayLocs frame_1_arrays args s ++ Jvm.staticLocs frame_1_statics s) 16 128 → Post tb e args s (.returned v) u) :
    ArmFor flags0 classFile x code maxLocals ret World_1 tables_1 room_1 Calls_1 rest_1 Pre_1 Post := by
  intro l hfl _ _ p e ha hc hk s m args below hf hA hF happ hP
  obtain ⟨hcalls, hrest, hpre⟩ := hP
  obtain ⟨-, -, -, hnamed, -, -, -, hat⟩ := (Spec.applies_iff hf).mp happ
  obtain ⟨hg, hn⟩ := and_e (Cond.before_iff.mp (show (Jvm.Cond.and given_1 narrow_1).before args s = true from hpre))
  obtain ⟨hcount, hg0⟩ := and_e hg
  obtain ⟨k0, hg1⟩ := and_e hg0
  have k1 := hg1
  obtain ⟨w0, w1, rfl⟩ : ∃ w0 w1 : Value, args = #[w0, w1] := by
    have hs : args.size = 2 := by simpa [Cond.value, given_1] using hcount
    obtain ⟨L⟩ := args
    match L, hs with
    | [w0, w1], _ => exact ⟨w0, w1, rfl⟩
  have hw := fun d (hd : d ∈ tables_1) => atoms_spec (ws := Jvm.Cond.code x code maxLocals ret :: tables_1) hat d (List.mem_cons_of_mem _ hd)
  have hfit : Fit s := fun {y c} hc i hi => by
    obtain ⟨ha, rfl⟩ := Array.getElem?_eq_some_iff.mp hc
    have q := List.all_eq_true.mp ((Array.all_eq_true_iff_forall_mem.mp hF) _ (Array.getElem_mem ha)) i (List.mem_range.mpr hi)
    simpa [Array.getElem?_eq_getElem hi] using q
  obtain ⟨i0, j0⟩ := is_v k0
  obtain rfl : w0 = (.int i0) := Option.some.inj j0
  obtain ⟨i1, j1⟩ := is_v k1
  obtain rfl : w1 = (.int i1) := Option.some.inj j1
  obtain ⟨n, o, h1, h2, h3, _, L, rfl, ⟨rfl, N⟩, hq⟩ := rm0 l s _ hw tables_1 i0 i1 s.heap s.heap.size (Nat.le_refl _) p e ha hc hk s m _ below hf ((Spec.applies_iff_loose hf).mp happ).1 ⟨rfl, State.Warmed39.refl s, rfl⟩ trivial
  refine ⟨n, _, h1, h2, h3, hpost _ _ _ _ _ _ ⟨Cond.after_iff.mpr rfl, Cond.after_iff.mpr (eq_i res_at (Term.int_eval (1)) rfl), trivial⟩ ⟨hq.1, hq.2.1, (hq.2.2.sift fun y hy => Or.inr (N y hy)).mono (by decide) (by decide)⟩⟩
theorem main_1_1 : Claimed_1_1 := comes_1 fun _ _ _ _ _ _ h hF => ⟨h.1, hF⟩
theorem main_1_2 : Claimed_1_2 := comes_1 fun _ _ _ _ _ _ h hF => ⟨h.2.1, hF⟩
end Jvm.Pilot.@@N@@
namespace Jvm.Pilot.@@N@@
open Jvm Jvm.ClassFile Sem Op Lib Jvm.Free Jvm.Stand Jvm.Pilot.@@N@@.Jvm.D
/-! MADE BY PROGRAM (witnessworld.py) out of the Statement's table words and the real class files: 11 classes; the members and pool entries that the words name. The judged class is class 1, her method 1. -/
namespace start1
open Jvm.ClassFile
def u (s : String) : CpInfo := .utf8 (stringToUtf16 s)
/-- a pool by its gaps: so many unusable entries, then the entry; so many at the end -/
def gap : Nat → List CpInfo → List CpInfo
  | 0, r => r
  | n + 1, r => .unusable :: gap n r
def poolList (es : List (Nat × CpInfo)) (last : Nat) : List CpInfo := es.foldr (fun e r => gap e.1 (e.2 :: r)) (gap last [])
def pool (es : List (Nat × CpInfo)) (last : Nat) : Array CpInfo := ⟨poolList es last⟩
def fileOf (pool : Array CpInfo) (this : Nat) (attrs : Array Attribute := #[]) (ms : Array MethodInfo := #[]) (fl : Nat := 33) (sup : Nat := 0) (ifs : Array Nat := #[]) (fds : Array FieldInfo := #[]) : ClassFile where
  minorVersion := 0
  majorVersion := 65
  constantPool := pool
  accessFlags := fl
  thisClass := this
  superClass := sup
  interfaces := ifs
  fields := fds
  methods := ms
  attributes := attrs
def plain (name : String) (sup : Option ClassId) : Class where
  name := name
  kind := .ordinary
  loader := none
  accessFlags := 33
  super := sup
  interfaces := #[]
  cf := none
  fields := #[]
  methods := #[]
  instanceTypes := #[]
  staticTypes := #[]
  resolved := #[]
  callSites := []
  init := .initialized
  statics := none
  mirror := none

def pool0 : Array CpInfo := pool [(5, u "<init>"), (0, u "()V"), (1, .class_ 10), (1, u "java/lang/Object")] 113

def k0m0 : Method := { name := "<init>", desc := "()V", sig := { parameters := [], returnType := none }, accessFlags := 1, code := none }
/-- java/lang/Object -/
def k0 : Class := { plain "java/lang/Object" none with
  accessFlags := 33
  interfaces := #[]
  cf := some (fileOf pool0 8 #[] #[{ accessFlags := 1, nameIndex := 5, descriptorIndex := 6, attributes := #[] }] 33 0 #[] #[])
  fields := #[]
  methods := #[k0m0]
  instanceTypes := #[]
  staticTypes := #[]
  resolved := Array.replicate 124 none
  statics := none }

def pool1 : Array CpInfo := pool [(2, .class_ 4), (1, u "java/lang/Object"), (0, u "<init>"), (0, u "()V"), (0, .methodref 8 9), (0, .class_ 10), (0, .nameAndType 11 12), (0, u "com/example/statewright/statewright/model/RegexSyntax"), (0, u "flag"), (0, u "(C)I"), (0, .methodref 14 15), (0, .class_ 16), (0, .nameAndType 17 12), (0, u "com/example/statewright/statewright/model/RegexSyntaxFlagPinLaw"), (0, u "expected"), (2, u "law"), (0, u "(II)Z")] 5

def k1m0 : Method := { name := "<init>", desc := "()V", sig := { parameters := [], returnType := none }, accessFlags := 2, code := none }
def k1c1 : Code := { maxStack := 4, maxLocals := 5, code := code, exceptionTable := #[], attributes := #[] }
def k1m1 : Method := { name := "law", desc := "(II)Z", sig := { parameters := [.int, .int], returnType := some .boolean }, accessFlags := 9, code := some k1c1 }
def k1c2 : Code := { maxStack := 2, maxLocals := 1, code := method_3_code, exceptionTable := #[], attributes := #[] }
def k1m2 : Method := { name := "expected", desc := "(C)I", sig := { parameters := [.char], returnType := some .int }, accessFlags := 10, code := some k1c2 }
/-- com/example/statewright/statewright/model/RegexSyntaxFlagPinLaw -/
def k1 : Class := { plain "com/example/statewright/statewright/model/RegexSyntaxFlagPinLaw" (some 0) with
  accessFlags := 49
  interfaces := #[]
  cf := some (fileOf pool1 14 #[] #[{ accessFlags := 2, nameIndex := 5, descriptorIndex := 6, attributes := #[] }, { accessFlags := 9, nameIndex := 20, descriptorIndex := 21, attributes := #[] }, { accessFlags := 10, nameIndex := 17, descriptorIndex := 12, attributes := #[] }] 49 2 #[] #[])
  fields := #[]
  methods := #[k1m0, k1m1, k1m2]
  instanceTypes := #[]
  staticTypes := #[]
  resolved := Array.replicate 27 none
  statics := none }

def pool2 : Array CpInfo := pool [(2, .class_ 4), (1, u "java/lang/Object"), (0, u "<init>"), (0, u "()V"), (0, .class_ 8), (0, u "com/example/statewright/statewright/model/RegexSyntax$NestingReader"), (1, .class_ 12), (1, u "com/example/statewright/statewright/model/RegexSyntax"), (49, u "CLASS_ESCAPES"), (0, u "Ljava/lang/String;"), (8, u "flag"), (0, u "(C)I")] 5

def k2m0 : Method := { name := "<init>", desc := "()V", sig := { parameters := [], returnType := none }, accessFlags := 2, code := none }
def k2c1 : Code := { maxStack := 2, maxLocals := 2, code := prog_30_method_6_code, exceptionTable := #[], attributes := #[] }
def k2m1 : Method := { name := "flag", desc := "(C)I", sig := { parameters := [.char], returnType := some .int }, accessFlags := 8, code := some k2c1 }
/-- com/example/statewright/statewright/model/RegexSyntax -/
def k2 : Class := { plain "com/example/statewright/statewright/model/RegexSyntax" (some 0) with
  accessFlags := 48
  interfaces := #[]
  cf := some (fileOf pool2 10 #[.nestMembers #[7]] #[{ accessFlags := 2, nameIndex := 5, descriptorIndex := 6, attributes := #[] }, { accessFlags := 8, nameIndex := 72, descriptorIndex := 73, attributes := #[] }] 48 2 #[] #[{ accessFlags := 26, nameIndex := 62, descriptorIndex := 63, attributes := #[] }])
  fields := #[{ name := "CLASS_ESCAPES", type := (.object "java/lang/String"), accessFlags := 26, slot := 0, constantValue := 0 }]
  methods := #[k2m0, k2m1]
  instanceTypes := #[]
  staticTypes := #[(.object "java/lang/String")]
  resolved := Array.replicate 79 none
  statics := none }

def pool3 : Array CpInfo := pool [(1, u "java/lang/Cloneable"), (0, .class_ 1), (0, u "java/lang/Object"), (0, .class_ 3)] 3

/-- java/lang/Cloneable -/
def k3 : Class := { plain "java/lang/Cloneable" (some 0) with
  accessFlags := 1537
  interfaces := #[]
  cf := some (fileOf pool3 2 #[] #[] 1537 4 #[] #[])
  fields := #[]
  methods := #[]
  instanceTypes := #[]
  staticTypes := #[]
  resolved := Array.replicate 8 none
  statics := none }

def pool4 : Array CpInfo := pool [(1, u "java/io/Serializable"), (0, .class_ 1), (0, u "java/lang/Object"), (0, .class_ 3)] 3

/-- java/io/Serializable -/
def k4 : Class := { plain "java/io/Serializable" (some 0) with
  accessFlags := 1537
  interfaces := #[]
  cf := some (fileOf pool4 2 #[] #[] 1537 4 #[] #[])
  fields := #[]
  methods := #[]
  instanceTypes := #[]
  staticTypes := #[]
  resolved := Array.replicate 8 none
  statics := none }

/-- the primitive byte -/
def k5 : Class := { plain "byte" none with kind := .primitive 'B', accessFlags := 0x411 }
/-- [B -/
def k6 : Class := { plain "[B" (some 0) with kind := .array 5 .byte, interfaces := #[3, 4], accessFlags := 1041 }

/-- the primitive char -/
def k7 : Class := { plain "char" none with kind := .primitive 'C', accessFlags := 0x411 }
/-- [C -/
def k8 : Class := { plain "[C" (some 0) with kind := .array 7 .char, interfaces := #[3, 4], accessFlags := 1041 }

/-- the primitive int -/
def k9 : Class := { plain "int" none with kind := .primitive 'I', accessFlags := 0x411 }
/-- [I -/
def k10 : Class := { plain "[I" (some 0) with kind := .array 9 .int, interfaces := #[3, 4], accessFlags := 1041 }

def heap : Heap := #[]
def classes : Array Class := #[k0, k1, k2, k3, k4, k5, k6, k7, k8, k9, k10]
def interned : List (Array UInt16 × Addr) := []
def slotsUsed : Nat := 0
def theMethod : MethodId := ⟨1, 1⟩
def args0 : Array Value := #[.int 5, .int 100]
def aboutOver (below : List Frame) : State where
  vm := { classes := classes, interned := interned.toArray }
  heap := heap
  slotsUsed := slotsUsed
  threads := #[{ frames := .invoking theMethod args0 :: below }]
def below0 : List Frame := [.native { method := ⟨0, 0⟩, args := #[] }]
def about1 : State := aboutOver below0
def p0 : Program := .bare "" "" ""
def e0 : Env := launch0.env 0 0 0
theorem w_frames : about1.frames = Frame.invoking theMethod args0 :: below0 := rfl
set_option maxRecDepth 65536 in
theorem w_args : argsFit about1.vm theMethod args0 = true := by decide +kernel
set_option maxRecDepth 65536 in
theorem w_heap : heapFits about1 = true := by decide +kernel
set_option maxRecDepth 65536 in
theorem w_runnable : about1.curStatus? = some .runnable := by decide +kernel
set_option maxRecDepth 65536 in
theorem w_alone : about1.alone = true := by decide +kernel
set_option maxRecDepth 65536 in
theorem w_named : about1.methodNamed? x = some theMethod := by decide +kernel
set_option maxRecDepth 65536 in
theorem w_hears : about1.hears theMethod below0 = true := by decide +kernel
set_option maxRecDepth 65536 in
theorem w_ripe : about1.ripe theMethod args0 below0 = true := by decide +kernel
theorem w_running : about1.status = .running := rfl
set_option maxRecDepth 65536 in
theorem w_room : about1.hasRoom e0.platform room_1 = true :=
  launch0.hasRoom_least _ room_1 (by decide +kernel) (by decide +kernel) (by decide +kernel) (by decide +kernel) (by decide +kernel) (by decide +kernel)
theorem allAtoms_all (ts : List Jvm.Cond) (a : Array Jvm.Value) (st : Jvm.State) : (allAtoms ts).before a st = ts.all (fun c => c.before a st) := by
  induction ts with
  | nil => rfl
  | cons c t ih =>
    show (Jvm.Cond.and c (allAtoms t)).before a st = _
    rw [Jvm.Cond.before_and, ih, List.all_cons]
def words1 : List Jvm.Cond := Jvm.Cond.code x code maxLocals ret :: tables_1
/-- a 'code' word, met by the world's own term for the bytes: nothing is compared byte by byte -/
theorem code_word {y : MethodName} {bytes : ByteArray} {mx : Nat} {rt : Option FieldType} {a : Array Value} {s : State} {m : MethodId} {meth : Method} {c : Code} (h1 : s.methodNamed? y = some m) (h2 : s.vm.method? m = some meth) (h3 : meth.code = some c) (h4 : c.code = bytes)
    (h5 : (c.maxLocals == mx && c.exceptionTable.isEmpty && decide (c.maxStack ≤ mostOperands) && decide (meth.sig.returnType = rt) && !meth.locks && decide (parseMethodDescriptor y.desc = some meth.sig)) = true) : (Jvm.Cond.code y bytes mx rt).before a s = true := by
  simp only [Bool.and_eq_true, beq_iff_eq, Bool.not_eq_true', decide_eq_true_eq] at h5
  obtain ⟨⟨⟨⟨⟨g1, g2⟩, g3⟩, g4⟩, g5⟩, g6⟩ := h5
  simp [Cond.before, Cond.holds, Cond.value, h1, h2, h3, h4, g1, g2, g3, g4, g5, g6]
def isCode : Jvm.Cond → Bool
  | .code _ _ _ _ => true
  | _ => false
theorem all_split {L : List Jvm.Cond} {P : Jvm.Cond → Bool} (h1 : L.all (fun c => isCode c || P c) = true) (h2 : ∀ c ∈ L.filter isCode, P c = true) : L.all P = true := by
  refine List.all_eq_true.mpr fun c hc => ?_
  have h := List.all_eq_true.mp h1 c hc
  rcases Bool.eq_false_or_eq_true (isCode c) with hi | hi
  · exact h2 c (List.mem_filter.mpr ⟨hc, hi⟩)
  · simpa [hi] using h
set_option maxRecDepth 65536 in
theorem w_c0 : (Jvm.Cond.code x code maxLocals ret).before args0 about1 = true := code_word (m := ⟨1, 1⟩) (meth := k1m1) (c := k1c1) (by decide +kernel) rfl rfl rfl (by decide +kernel)
set_option maxRecDepth 65536 in
theorem w_c1 : (Jvm.Cond.code ({ cls := "com/example/statewright/statewright/model/RegexSyntax", name := "flag", desc := "(C)I" } : Jvm.MethodName) prog_30_method_6_code (2 : Nat) (Option.some Jvm.ClassFile.FieldType.int)).before args0 about1 = true := code_word (m := ⟨2, 1⟩) (meth := k2m1) (c := k2c1) (by decide +kernel) rfl rfl rfl (by decide +kernel)
set_option maxRecDepth 65536 in
theorem w_c2 : (Jvm.Cond.code ({ cls := "com/example/statewright/statewright/model/RegexSyntaxFlagPinLaw", name := "expected", desc := "(C)I" } : Jvm.MethodName) method_3_code (1 : Nat) (Option.some Jvm.ClassFile.FieldType.int)).before args0 about1 = true := code_word (m := ⟨1, 2⟩) (meth := k1m2) (c := k1c2) (by decide +kernel) rfl rfl rfl (by decide +kernel)
def codes1 : List Jvm.Cond := [Jvm.Cond.code x code maxLocals ret, Jvm.Cond.code ({ cls := "com/example/statewright/statewright/model/RegexSyntax", name := "flag", desc := "(C)I" } : Jvm.MethodName) prog_30_method_6_code (2 : Nat) (Option.some Jvm.ClassFile.FieldType.int), Jvm.Cond.code ({ cls := "com/example/statewright/statewright/model/RegexSyntaxFlagPinLaw", name := "expected", desc := "(C)I" } : Jvm.MethodName) method_3_code (1 : Nat) (Option.some Jvm.ClassFile.FieldType.int)]
set_option maxRecDepth 65536 in
theorem codes_eq : words1.filter isCode = codes1 := rfl
theorem w_codes : ∀ c ∈ words1.filter isCode, c.before args0 about1 = true := by
  rw [codes_eq]
  intro c hc
  simp only [codes1, List.mem_cons, List.not_mem_nil, or_false] at hc
  rcases hc with rfl | rfl | rfl
  · exact w_c0
  · exact w_c1
  · exact w_c2
set_option maxRecDepth 65536 in
theorem w_t1 : words1.all (fun c => isCode c || c.before args0 about1) = true := by decide +kernel
theorem w_tables : (allAtoms (Jvm.Cond.code x code maxLocals ret :: tables_1)).before args0 about1 = true := by
  rw [allAtoms_all]
  show words1.all (fun c => c.before args0 about1) = true
  refine all_split ?_ w_codes
  rw [w_t1]
set_option maxRecDepth 65536 in
theorem w_case : (Jvm.Cond.and given_1 narrow_1).before args0 about1 = true := by decide +kernel
theorem w_applies : (headSpec (Jvm.Cond.code x code maxLocals ret :: tables_1) room_1).applies x e0.platform about1 = true :=
  (Spec.applies_iff w_frames).mpr ⟨w_running, w_runnable, w_alone, w_named, w_hears, w_ripe, w_room, w_tables⟩
theorem atStart : AtStart classFile x code maxLocals ret World_1 tables_1 room_1 Calls_1 rest_1 Pre_1 launch0 p0 e0 about1 theMethod args0 below0 :=
  ⟨lists_1, trivial, launch0.admits_env _ _ _, launch0.least_env, fairChoices_fair.cas, fairChoices_fair.clock, w_frames, w_args, w_heap, w_applies, trivial, trivial, w_case⟩
end start1
theorem witness_1 : WitnessClaimed_1 := ⟨start1.p0, start1.e0, start1.about1, start1.theMethod, start1.args0, start1.below0, start1.atStart⟩
end Jvm.Pilot.@@N@@
