import JvmDerived
import JvmDerived.Pilot.@@N@@Statement
import JvmDerived.Pilot.@@N@@Code
set_option linter.unusedVariables false
set_option linter.unusedSimpArgs false
namespace Jvm.OwnW
open Sem ClassFile Op Lib Jvm.Stand Jvm.Free Jvm.LawKit Jvm.RoadKit
/-- what is left to be shown of a walk that stands at S: it comes back, Q holds, the frame holds -/
def Wp (p : Program) (e : Env) (s : State) (below : List Frame) (Q : Option Value → Heap → List Loc → Prop) (kc ks : Nat) (S : State) : Prop :=
  ∃ s₂ o, Steps p.tables e below S s₂ ∧ s₂.status = .running ∧ Ended s₂ below o ∧ ∃ v L, o = .returned v ∧ Q v s₂.heap L ∧ FrameEnd s o s₂ L kc ks
/-- a method's contract at given arguments and a given heap -/
def Con (l : Launch) (Z : State) (y : MethodName) (bytes : ByteArray) (maxL : Nat) (ret : Option FieldType) (ws : List Jvm.Cond) (rm : Room) (as' : Array Value) (h0 : Heap) (Q : Option Value → Heap → List Loc → Prop) : Prop :=
  MetFree l y (head1 (Jvm.Cond.code y bytes maxL ret :: ws) rm) (fun a U => a = as' ∧ Z.Warmed39 U.vm ∧ U.heap = h0) (fun _ _ _ _ _ => True) (fun _ U o U' => ∃ v L, o = .returned v ∧ Q v U'.heap L ∧ FrameEnd U o U' L rm.cells rm.slots)
/-- an array: its kind, length, and what each place holds -/
def IArr (Z : State) (h : Heap) (a : Addr) (ty : FieldType) (n : Nat) (f : Nat → Value) : Prop := ∃ c : Cell, Arr Z h a c ty ∧ c.slots.size = n ∧ ∀ j, j < n → c.slots[j]? = some (f j)
def upd (f : Nat → Value) (i : Nat) (v : Value) : Nat → Value := fun k => if k = i then v else f k
theorem upd_same (f : Nat → Value) (i : Nat) (v : Value) : upd f i v i = v := by simp [upd]
theorem upd_ne {f : Nat → Value} {i k : Nat} {v : Value} (q : k ≠ i) : upd f i v k = f k := by simp [upd, q]
section W
variable {p : Program} {l : Launch} {e : Env} {R : Room} {s : State} {m : MethodId} {args : Array Value} {below : List Frame} {meth : Method} {c : Code} {T : State} {locs : List Loc} {cells slots : Nat} {Q : Option Value → Heap → List Loc → Prop} {kc ks : Nat} {Z : State} {a0 : Array Value} {h h' : Heap} {pc : Nat} {Ls : Array Slot} {st rest : List Value} {a b : Addr} {n : Nat} {f : Nat → Value} {ty : FieldType}
theorem IArr.lt (A : IArr Z h a ty n f) : a < h.size := by obtain ⟨c, A, -⟩ := A; exact A.lt
theorem IArr.ext (A : IArr Z h a ty n f) (E : Ext h h') : IArr Z h' a ty n f := by obtain ⟨c, A, r⟩ := A; exact ⟨c, A.ext E, r⟩
theorem IArr.other {sl : Nat} {v : Value} (A : IArr Z h b ty n f) (W : Wr h h' a sl v) (q : b ≠ a) : IArr Z h' b ty n f := by obtain ⟨c, A, r⟩ := A; exact ⟨c, A.other W q, r⟩
theorem IArr.keep {ws : List Addr} (A : IArr Z h a ty n f) (K : Keep h h' ws) (q : a ∉ ws) : IArr Z h' a ty n f := by obtain ⟨c, A, r⟩ := A; exact ⟨c, ⟨K.2.1 a c A.1 q, A.2⟩, r⟩
theorem IArr.same {i : Nat} {v : Value} (A : IArr Z h a ty n f) (W : Wr h h' a i v) : IArr Z h' a ty n (upd f i v) := by
  obtain ⟨c, A, S, H⟩ := A
  refine ⟨_, A.same W, by rw [sz_set]; exact S, fun j hj => ?_⟩
  unfold upd Cell.setSlot
  dsimp only
  split
  · rename_i q; subst q
    rw [Array.getElem?_setIfInBounds_self_of_lt (by omega)]
  · rename_i q
    rw [Array.getElem?_setIfInBounds_ne (Ne.symm q)]; exact H j hj
theorem IArr.fresh {cA : ClassId} {z : Int32} {k : Nat} (A : Arr Z h a (newA cA ty z) ty) (q : z.toNatClampNeg = k) : IArr Z h a ty k (fun _ => defaultValue ty) :=
  ⟨_, A, by rw [sz_new]; exact q, fun j hj => by subst q; simp [newA, hj]⟩
theorem IArr.cong {g : Nat → Value} (A : IArr Z h a ty n f) (q : ∀ j, j < n → g j = f j) : IArr Z h a ty n g := by
  obtain ⟨c, A, S, H⟩ := A; exact ⟨c, A, S, fun j hj => by rw [H j hj, q j hj]⟩
theorem nat_of {j : Int32} {i : Nat} (hj : j.toInt = (i : Int)) : ¬ j < 0 ∧ j.toNatClampNeg = i := by
  refine ⟨?_, ?_⟩
  · rw [Int32.lt_iff_toInt_lt, hj]; show ¬ (i : Int) < 0; omega
  · show j.toInt.toNat = i; rw [hj]; rfl
theorem fr1 {k : Nat} {a : Addr} {i : Nat} (q : k ≤ a) : Fr k [⟨a, i⟩] := fun y hy => by cases List.mem_singleton.mp hy; exact q
theorem own_and (x M : Int32) (hM : 0 ≤ M.toInt) : ∃ n : Nat, (n : Int) ≤ M.toInt ∧ (x &&& M).toInt = (n : Int) := by
  have h1 : (x &&& M).toBitVec.toNat ≤ M.toBitVec.toNat := by rw [Int32.toBitVec_and, BitVec.toNat_and]; exact Nat.and_le_right
  have h2 : M.toInt = if 2 * M.toBitVec.toNat < 2 ^ 32 then (M.toBitVec.toNat : Int) else (M.toBitVec.toNat : Int) - (2 ^ 32 : Nat) := BitVec.toInt_eq_toNat_cond _
  have h3 : (x &&& M).toInt = if 2 * (x &&& M).toBitVec.toNat < 2 ^ 32 then ((x &&& M).toBitVec.toNat : Int) else ((x &&& M).toBitVec.toNat : Int) - (2 ^ 32 : Nat) := BitVec.toInt_eq_toNat_cond _
  have h4 := M.toBitVec.isLt
  refine ⟨(x &&& M).toBitVec.toNat, ?_, ?_⟩
  · split at h2 <;> omega
  · split at h2 <;> split at h3 <;> omega
theorem own_rem {x y : Int32} (hx : 0 ≤ x.toInt) (hy : 0 < y.toInt) : ∃ n : Nat, (n : Int) < y.toInt ∧ (x % y).toInt = (n : Int) ∧ (n : Int) = x.toInt % y.toInt := by
  have h1 : (x % y).toInt = x.toInt.tmod y.toInt := Int32.toInt_mod _ _
  rw [Int.tmod_eq_emod_of_nonneg hx] at h1
  have h2 := Int.emod_nonneg x.toInt (Int.ne_of_gt hy)
  have h3 := Int.emod_lt_of_pos x.toInt hy
  exact ⟨(x.toInt % y.toInt).toNat, by omega, by omega, by omega⟩
theorem own_add {x y : Int32} (h1 : -2147483648 ≤ x.toInt + y.toInt) (h2 : x.toInt + y.toInt < 2147483648) : (x + y).toInt = x.toInt + y.toInt := by
  have a := c_iadd x y
  have r := rng32 (x + y)
  omega
theorem own_sub {x y : Int32} (h1 : -2147483648 ≤ x.toInt - y.toInt) (h2 : x.toInt - y.toInt < 2147483648) : (x - y).toInt = x.toInt - y.toInt := by
  have a := c_isub x y
  have r := rng32 (x - y)
  omega
theorem own_ofNat {n : Nat} (h : n < 2147483648) : (Int32.ofNat n).toInt = (n : Int) := Int32.toInt_ofNat_of_lt h
theorem own_ieq {x : Int32} {n : Nat} (h : x.toInt = (n : Int)) : x = Int32.ofNat n := by
  have r := rng32 x
  apply Int32.toInt_inj.mp; rw [h, own_ofNat (by omega)]
theorem Wp.step {S S' : State} (f : ∀ t, Steps p.tables e below S' t → Steps p.tables e below S t) (k : Wp p e s below Q kc ks S') : Wp p e s below Q kc ks S := by
  obtain ⟨s₂, o, h1, r⟩ := k
  exact ⟨s₂, o, f _ h1, r⟩
theorem Wp.chain {S S' : State} (f : Steps p.tables e below S S') (k : Wp p e s below Q kc ks S') : Wp p e s below Q kc ks S := by
  obtain ⟨s₂, o, h1, r⟩ := k
  exact ⟨s₂, o, f.trans h1, r⟩
theorem Wp.cast {S S' : State} (q : S = S') (k : Wp p e s below Q kc ks S') : Wp p e s below Q kc ks S := q ▸ k
theorem Wp.enter {g g' : JFrame} (q : g = g') (k : Wp p e s below Q kc ks (T.setTop g')) : Wp p e s below Q kc ks (T.setTop g) := q ▸ k
theorem Wp.mono {S : State} {Q' : Option Value → Heap → List Loc → Prop} {kc' ks' : Nat} (k : Wp p e s below Q' kc' ks' S) (hq : ∀ v h L, Q' v h L → Q v h L) (h1 : kc' ≤ kc) (h2 : ks' ≤ ks) : Wp p e s below Q kc ks S := by
  obtain ⟨s₂, o, g1, g2, g3, v, L, g4, g5, g6, g7, g8⟩ := k
  exact ⟨s₂, o, g1, g2, g3, v, L, g4, hq _ _ _ g5, g6, g7, g8.mono h1 h2⟩
theorem Con.of {y : MethodName} {bytes : ByteArray} {maxL : Nat} {ret : Option FieldType} {ws : List Jvm.Cond} {rm : Room} {as' : Array Value} (hpn : plainFor y = true)
    (w : ∀ p e s m below meth c s₁, p.tables.exec = Jvm.exec → c.code = bytes → c.maxLocals = maxL → s.vm.findClass y.cls = some m.cls → meth.name = y.name → meth.sig.returnType = ret → meth.locks = false → Z.Warmed39 s.vm → Stand p l e rm s m as' below meth c s₁ [] 0 0 → s₁.heap = h → Wp p e s below Q rm.cells rm.slots (s₁.setTop (entryFrame m as' maxL))) :
    Con l Z y bytes maxL ret ws rm as' h Q := by
  refine MetFree.of_bodySF hpn hisR ?_
  intro p e s m args below meth c s₁ Bd hml0 hP hK
  obtain ⟨rfl, hZ, hh⟩ := hP
  exact w p e s m below meth c s₁ Bd.exec Bd.bytes hml0 (findClass_of_methodNamed Bd.named) (name_of_methodNamed Bd.named Bd.method).1 Bd.returns (BodyLoose.notSynchronized Bd) hZ (Stand.of_body Bd) (by rw [← hh, Bd.state]; rfl)
theorem Con.mono {y : MethodName} {bytes : ByteArray} {maxL : Nat} {ret : Option FieldType} {ws : List Jvm.Cond} {rm : Room} {as' : Array Value} {Q' : Option Value → Heap → List Loc → Prop} (k : Con l Z y bytes maxL ret ws rm as' h Q') (hq : ∀ v h L, Q' v h L → Q v h L) : Con l Z y bytes maxL ret ws rm as' h Q := by
  intro p e h1 h2 h3 s m args below h4 h5 h6 h7
  obtain ⟨n, o, g1, g2, g3, v, L, g4, g5, g6⟩ := k p e h1 h2 h3 s m args below h4 h5 h6 h7
  exact ⟨n, o, g1, g2, g3, v, L, g4, hq _ _ _ g5, g6⟩
/-! the ends -/
theorem Wp.done (X : Stand p l e R s m args below meth c T locs cells slots) (hlk : meth.locks = false) {v : Option Value} (hv : meth.sig.returnType = none → v = none)
    (stp : ∀ fs, (∀ (f : JFrame) (acts : List Action), f.method = m → f.locked = none → f.entered = [] → (doReturn e (T.setTop f) acts v).1 = T.setFrames fs) → Steps p.tables e below (T.setTop (mkF m pc Ls st)) (T.setFrames fs))
    (hQ : Q v T.heap locs) (hc : cells ≤ kc) (hs : slots ≤ ks) : Wp p e s below Q kc ks (T.setTop (mkF m pc Ls st)) := by
  obtain ⟨fs, hr, hrun, hended, hW, hsame⟩ := X.leave (v := v) hv hlk
  exact ⟨_, _, stp fs hr, hrun, hended, v, locs, rfl, hQ, ⟨_, rfl⟩, hW, hsame.mono hc hs⟩
theorem W.iret (X : Stand p l e R s m args below meth c T locs cells slots) (hx : p.tables.exec = Jvm.exec) (hlk : meth.locks = false) (hret : meth.sig.returnType = some .int) (hd : decode c.code pc = .ok (.ireturn, 1)) {z : Int32} (hc : cells ≤ kc) (hs : slots ≤ ks) (hQ : Q (some (.int z)) T.heap locs) : Wp p e s below Q kc ks (T.setTop (mkF m pc Ls (.int z :: rest))) :=
  Wp.done X hlk (fun h => by rw [hret] at h; cases h) (fun fs hr => retOut X hx hret rfl (Or.inl ⟨rfl, Or.inl rfl, _, rfl⟩) hd hr) hQ hc hs
theorem W.nret (X : Stand p l e R s m args below meth c T locs cells slots) (hx : p.tables.exec = Jvm.exec) (hlk : meth.locks = false) {t : FieldType} (hret : meth.sig.returnType = some t) (ht : t = .boolean ∨ t = .byte ∨ t = .char ∨ t = .short) (hd : decode c.code pc = .ok (.ireturn, 1)) {z : Int32} (hc : cells ≤ kc) (hs : slots ≤ ks) (hQ : Q (some (.int (nar t z))) T.heap locs) : Wp p e s below Q kc ks (T.setTop (mkF m pc Ls (.int z :: rest))) :=
  Wp.done X hlk (fun h => by rw [hret] at h; cases h) (fun fs hr => retN X hx hret ht hd hr) hQ hc hs
theorem W.lret (X : Stand p l e R s m args below meth c T locs cells slots) (hx : p.tables.exec = Jvm.exec) (hlk : meth.locks = false) (hret : meth.sig.returnType = some .long) (hd : decode c.code pc = .ok (.lreturn, 1)) {z : Int64} (hc : cells ≤ kc) (hs : slots ≤ ks) (hQ : Q (some (.long z)) T.heap locs) : Wp p e s below Q kc ks (T.setTop (mkF m pc Ls (.long z :: rest))) :=
  Wp.done X hlk (fun h => by rw [hret] at h; cases h) (fun fs hr => retOut X hx hret rfl (Or.inr (Or.inl ⟨rfl, rfl, _, rfl⟩)) hd hr) hQ hc hs
theorem W.dret (X : Stand p l e R s m args below meth c T locs cells slots) (hx : p.tables.exec = Jvm.exec) (hlk : meth.locks = false) (hret : meth.sig.returnType = some .double) (hd : decode c.code pc = .ok (.dreturn, 1)) {z : UInt64} (hc : cells ≤ kc) (hs : slots ≤ ks) (hQ : Q (some (.double z)) T.heap locs) : Wp p e s below Q kc ks (T.setTop (mkF m pc Ls (.double z :: rest))) :=
  Wp.done X hlk (fun h => by rw [hret] at h; cases h) (fun fs hr => retOut X hx hret rfl (Or.inr (Or.inr (Or.inl ⟨rfl, rfl, _, rfl⟩))) hd hr) hQ hc hs
theorem W.aret (X : Stand p l e R s m args below meth c T locs cells slots) (hx : p.tables.exec = Jvm.exec) (hlk : meth.locks = false) {t : FieldType} (hret : meth.sig.returnType = some t) (ht : t.isReference = true) {w : Value} (hw : w.isRef = true) (hd : decode c.code pc = .ok (.areturn, 1)) (hc : cells ≤ kc) (hs : slots ≤ ks) (hQ : Q (some w) T.heap locs) : Wp p e s below Q kc ks (T.setTop (mkF m pc Ls (w :: rest))) :=
  Wp.done X hlk (fun h => by rw [hret] at h; cases h) (fun fs hr => retOut X hx hret (by rcases ref_cases hw with rfl | ⟨z, rfl⟩ <;> cases t <;> first | rfl | cases ht) (Or.inr (Or.inr (Or.inr (Or.inr ⟨rfl, ht, hw⟩)))) hd hr) hQ hc hs
theorem W.vret (X : Stand p l e R s m args below meth c T locs cells slots) (hx : p.tables.exec = Jvm.exec) (hlk : meth.locks = false) (hret : meth.sig.returnType = none) (hd : decode c.code pc = .ok (.return_, 1)) (hc : cells ≤ kc) (hs : slots ≤ ks) (hQ : Q none T.heap locs) : Wp p e s below Q kc ks (T.setTop (mkF m pc Ls [])) :=
  Wp.done X hlk (fun _ => rfl) (fun fs hr => X.returnOut hx hret hd hr) hQ hc hs
/-! plain steps -/
theorem W.iconst (X : Stand p l e R s m args below meth c T locs cells slots) (hx : p.tables.exec = Jvm.exec) {i : Int} (pc' : Nat) (v : Int32) (hd : decode c.code pc = .ok (.iconst i, 1)) (hv : Int32.ofInt i = v) (hp : pc + 1 = pc') (K : Wp p e s below Q kc ks (T.setTop (mkF m pc' Ls (.int v :: st)))) : Wp p e s below Q kc ks (T.setTop (mkF m pc Ls st)) := by
  subst hp hv; exact Wp.step (fun _ k => XS.iconst X.here hx rfl hd k) K
theorem W.bipush (X : Stand p l e R s m args below meth c T locs cells slots) (hx : p.tables.exec = Jvm.exec) {i : Int} (pc' : Nat) (v : Int32) (hd : decode c.code pc = .ok (.bipush i, 2)) (hv : (Int8.ofInt i).toInt32 = v) (hp : pc + 2 = pc') (K : Wp p e s below Q kc ks (T.setTop (mkF m pc' Ls (.int v :: st)))) : Wp p e s below Q kc ks (T.setTop (mkF m pc Ls st)) := by
  subst hp hv; exact Wp.step (fun _ k => XS.bipush X.here hx rfl hd k) K
theorem W.sipush (X : Stand p l e R s m args below meth c T locs cells slots) (hx : p.tables.exec = Jvm.exec) {i : Int} (pc' : Nat) (v : Int32) (hd : decode c.code pc = .ok (.sipush i, 3)) (hv : (Int16.ofInt i).toInt32 = v) (hp : pc + 3 = pc') (K : Wp p e s below Q kc ks (T.setTop (mkF m pc' Ls (.int v :: st)))) : Wp p e s below Q kc ks (T.setTop (mkF m pc Ls st)) := by
  subst hp hv; exact Wp.step (fun _ k => XS.sipush X.here hx rfl hd k) K
theorem W.lconst (X : Stand p l e R s m args below meth c T locs cells slots) (hx : p.tables.exec = Jvm.exec) {i : Fin 2} (pc' : Nat) (v : Int64) (hd : decode c.code pc = .ok (.lconst i, 1)) (hv : (Int64.ofNat i) = v) (hp : pc + 1 = pc') (K : Wp p e s below Q kc ks (T.setTop (mkF m pc' Ls (.long v :: st)))) : Wp p e s below Q kc ks (T.setTop (mkF m pc Ls st)) := by
  subst hp hv; exact Wp.step (fun _ k => XT.lconst X.here hx rfl hd k) K
theorem W.anull (X : Stand p l e R s m args below meth c T locs cells slots) (hx : p.tables.exec = Jvm.exec) (pc' : Nat) (hd : decode c.code pc = .ok (.aconst_null, 1)) (hp : pc + 1 = pc') (K : Wp p e s below Q kc ks (T.setTop (mkF m pc' Ls (.null :: st)))) : Wp p e s below Q kc ks (T.setTop (mkF m pc Ls st)) := by
  subst hp; exact Wp.step (fun _ k => XS.aconstNull X.here hx rfl hd k) K
theorem W.ldcI (X : Stand p l e R s m args below meth c T locs cells slots) (hx : p.tables.exec = Jvm.exec) (hZ : Z.Warmed39 s.vm) {own : String} {index : Nat} {v : Int32} (pc' : Nat) (hown : s.vm.findClass own = some m.cls) (w : (Jvm.Cond.constant own index v).before a0 Z = true) (hd : decode c.code pc = .ok (.ldc index, 2)) (hp : pc + 2 = pc') (K : Wp p e s below Q kc ks (T.setTop (mkF m pc' Ls (.int v :: st)))) : Wp p e s below Q kc ks (T.setTop (mkF m pc Ls st)) := by
  subst hp; exact Wp.step (fun t k => X.ldcInt hx hown (mvT hZ w) (g := mkF m pc Ls st) rfl hd t k) K
theorem W.ldcL (X : Stand p l e R s m args below meth c T locs cells slots) (hx : p.tables.exec = Jvm.exec) (hZ : Z.Warmed39 s.vm) {own : String} {index : Nat} {v : Int64} (pc' : Nat) (hown : s.vm.findClass own = some m.cls) (w : (Jvm.Cond.constantLong own index v).before a0 Z = true) (hd : decode c.code pc = .ok (.ldc2_w index, 3)) (hp : pc + 3 = pc') (K : Wp p e s below Q kc ks (T.setTop (mkF m pc' Ls (.long v :: st)))) : Wp p e s below Q kc ks (T.setTop (mkF m pc Ls st)) := by
  subst hp; exact Wp.step (fun t k => X.ldc2Long hx hown (mvT hZ w) (g := mkF m pc Ls st) rfl hd t k) K
theorem W.iloadN (X : Stand p l e R s m args below meth c T locs cells slots) (hx : p.tables.exec = Jvm.exec) {k : Fin 4} {x : Int32} (pc' : Nat) (hd : decode c.code pc = .ok (.iload_n k, 1)) (hl : Ls[k.val]? = some (.val (.int x))) (hp : pc + 1 = pc') (K : Wp p e s below Q kc ks (T.setTop (mkF m pc' Ls (.int x :: st)))) : Wp p e s below Q kc ks (T.setTop (mkF m pc Ls st)) := by
  subst hp; exact Wp.step (fun _ k => XS.iloadN X.here hx rfl hd hl k) K
theorem W.iload (X : Stand p l e R s m args below meth c T locs cells slots) (hx : p.tables.exec = Jvm.exec) {k : Nat} {x : Int32} (pc' : Nat) (hd : decode c.code pc = .ok (.iload k, 2)) (hl : Ls[k]? = some (.val (.int x))) (hp : pc + 2 = pc') (K : Wp p e s below Q kc ks (T.setTop (mkF m pc' Ls (.int x :: st)))) : Wp p e s below Q kc ks (T.setTop (mkF m pc Ls st)) := by
  subst hp; exact Wp.step (fun _ k => XS.iload X.here hx rfl hd hl k) K
theorem W.aloadN (X : Stand p l e R s m args below meth c T locs cells slots) (hx : p.tables.exec = Jvm.exec) {k : Fin 4} {x : Value} (pc' : Nat) (hd : decode c.code pc = .ok (.aload_n k, 1)) (hl : Ls[k.val]? = some (.val x)) (hr : x.isRef = true) (hp : pc + 1 = pc') (K : Wp p e s below Q kc ks (T.setTop (mkF m pc' Ls (x :: st)))) : Wp p e s below Q kc ks (T.setTop (mkF m pc Ls st)) := by
  subst hp; exact Wp.step (fun _ k => XS.aloadN X.here hx rfl hd hl hr k) K
theorem W.aload (X : Stand p l e R s m args below meth c T locs cells slots) (hx : p.tables.exec = Jvm.exec) {k : Nat} {x : Value} (pc' : Nat) (hd : decode c.code pc = .ok (.aload k, 2)) (hl : Ls[k]? = some (.val x)) (hr : x.isRef = true) (hp : pc + 2 = pc') (K : Wp p e s below Q kc ks (T.setTop (mkF m pc' Ls (x :: st)))) : Wp p e s below Q kc ks (T.setTop (mkF m pc Ls st)) := by
  subst hp; exact Wp.step (fun _ k => XS.aload X.here hx rfl hd hl hr k) K
theorem W.lloadN (X : Stand p l e R s m args below meth c T locs cells slots) (hx : p.tables.exec = Jvm.exec) {k : Fin 4} {x : Int64} (pc' : Nat) (hd : decode c.code pc = .ok (.lload_n k, 1)) (hl : Ls[k.val]? = some (.val (.long x))) (hp : pc + 1 = pc') (K : Wp p e s below Q kc ks (T.setTop (mkF m pc' Ls (.long x :: st)))) : Wp p e s below Q kc ks (T.setTop (mkF m pc Ls st)) := by
  subst hp; exact Wp.step (fun _ k => XS.lloadN X.here hx rfl hd hl k) K
theorem W.lload (X : Stand p l e R s m args below meth c T locs cells slots) (hx : p.tables.exec = Jvm.exec) {k : Nat} {x : Int64} (pc' : Nat) (hd : decode c.code pc = .ok (.lload k, 2)) (hl : Ls[k]? = some (.val (.long x))) (hp : pc + 2 = pc') (K : Wp p e s below Q kc ks (T.setTop (mkF m pc' Ls (.long x :: st)))) : Wp p e s below Q kc ks (T.setTop (mkF m pc Ls st)) := by
  subst hp; exact Wp.step (fun _ k => XS.lload X.here hx rfl hd hl k) K
theorem W.istoreN (X : Stand p l e R s m args below meth c T locs cells slots) (hx : p.tables.exec = Jvm.exec) {k : Fin 4} {x : Int32} (pc' : Nat) (l' : Array Slot) (hd : decode c.code pc = .ok (.istore_n k, 1)) (hl : storeLocals Ls k.val (.int x) = some l') (hp : pc + 1 = pc') (K : Wp p e s below Q kc ks (T.setTop (mkF m pc' l' st))) : Wp p e s below Q kc ks (T.setTop (mkF m pc Ls (.int x :: st))) := by
  subst hp; exact Wp.step (fun _ k => XS.istoreN X.here hx rfl hd rfl hl k) K
theorem W.istore (X : Stand p l e R s m args below meth c T locs cells slots) (hx : p.tables.exec = Jvm.exec) {k : Nat} {x : Int32} (pc' : Nat) (l' : Array Slot) (hd : decode c.code pc = .ok (.istore k, 2)) (hl : storeLocals Ls k (.int x) = some l') (hp : pc + 2 = pc') (K : Wp p e s below Q kc ks (T.setTop (mkF m pc' l' st))) : Wp p e s below Q kc ks (T.setTop (mkF m pc Ls (.int x :: st))) := by
  subst hp; exact Wp.step (fun _ k => XS.istore X.here hx rfl hd rfl hl k) K
theorem W.astoreN (X : Stand p l e R s m args below meth c T locs cells slots) (hx : p.tables.exec = Jvm.exec) {k : Fin 4} {x : Value} (pc' : Nat) (l' : Array Slot) (hd : decode c.code pc = .ok (.astore_n k, 1)) (hr : x.isRef = true) (hl : storeLocals Ls k.val x = some l') (hp : pc + 1 = pc') (K : Wp p e s below Q kc ks (T.setTop (mkF m pc' l' st))) : Wp p e s below Q kc ks (T.setTop (mkF m pc Ls (x :: st))) := by
  subst hp; exact Wp.step (fun _ k => XS.astoreN X.here hx rfl hd rfl hr hl k) K
theorem W.astore (X : Stand p l e R s m args below meth c T locs cells slots) (hx : p.tables.exec = Jvm.exec) {k : Nat} {x : Value} (pc' : Nat) (l' : Array Slot) (hd : decode c.code pc = .ok (.astore k, 2)) (hr : x.isRef = true) (hl : storeLocals Ls k x = some l') (hp : pc + 2 = pc') (K : Wp p e s below Q kc ks (T.setTop (mkF m pc' l' st))) : Wp p e s below Q kc ks (T.setTop (mkF m pc Ls (x :: st))) := by
  subst hp; exact Wp.step (fun _ k => XS.astore X.here hx rfl hd rfl hr hl k) K
theorem W.lstoreN (X : Stand p l e R s m args below meth c T locs cells slots) (hx : p.tables.exec = Jvm.exec) {k : Fin 4} {x : Int64} (pc' : Nat) (l' : Array Slot) (hd : decode c.code pc = .ok (.lstore_n k, 1)) (hl : storeLocals Ls k.val (.long x) = some l') (hp : pc + 1 = pc') (K : Wp p e s below Q kc ks (T.setTop (mkF m pc' l' st))) : Wp p e s below Q kc ks (T.setTop (mkF m pc Ls (.long x :: st))) := by
  subst hp; exact Wp.step (fun _ k => XS.lstoreN X.here hx rfl hd rfl hl k) K
theorem W.lstore (X : Stand p l e R s m args below meth c T locs cells slots) (hx : p.tables.exec = Jvm.exec) {k : Nat} {x : Int64} (pc' : Nat) (l' : Array Slot) (hd : decode c.code pc = .ok (.lstore k, 2)) (hl : storeLocals Ls k (.long x) = some l') (hp : pc + 2 = pc') (K : Wp p e s below Q kc ks (T.setTop (mkF m pc' l' st))) : Wp p e s below Q kc ks (T.setTop (mkF m pc Ls (.long x :: st))) := by
  subst hp; exact Wp.step (fun _ k => XS.lstore X.here hx rfl hd rfl hl k) K
theorem W.iinc (X : Stand p l e R s m args below meth c T locs cells slots) (hx : p.tables.exec = Jvm.exec) {k : Nat} {i : Int} {x : Int32} (pc' : Nat) (v : Int32) (l' : Array Slot) (hd : decode c.code pc = .ok (.iinc k i, 3)) (hv : Int32.ofInt i = v) (hl : Ls[k]? = some (.val (.int x))) (hl' : storeLocals Ls k (.int (x + v)) = some l') (hp : pc + 3 = pc') (K : Wp p e s below Q kc ks (T.setTop (mkF m pc' l' st))) : Wp p e s below Q kc ks (T.setTop (mkF m pc Ls st)) := by
  subst hp hv; exact Wp.step (fun _ k => XS.iinc X.here hx rfl hd hl hl' k) K
theorem W.iadd (X : Stand p l e R s m args below meth c T locs cells slots) (hx : p.tables.exec = Jvm.exec) {x y : Int32} (pc' : Nat) (hd : decode c.code pc = .ok (.iadd, 1)) (hp : pc + 1 = pc') (K : Wp p e s below Q kc ks (T.setTop (mkF m pc' Ls (.int (x + y) :: st)))) : Wp p e s below Q kc ks (T.setTop (mkF m pc Ls (.int y :: .int x :: st))) := by
  subst hp; exact Wp.step (fun _ k => XS.iadd X.here hx rfl hd rfl k) K
theorem W.ladd (X : Stand p l e R s m args below meth c T locs cells slots) (hx : p.tables.exec = Jvm.exec) {x y : Int64} (pc' : Nat) (hd : decode c.code pc = .ok (.ladd, 1)) (hp : pc + 1 = pc') (K : Wp p e s below Q kc ks (T.setTop (mkF m pc' Ls (.long (x + y) :: st)))) : Wp p e s below Q kc ks (T.setTop (mkF m pc Ls (.long y :: .long x :: st))) := by
  subst hp; exact Wp.step (fun _ k => XS.ladd X.here hx rfl hd rfl k) K
theorem W.isub (X : Stand p l e R s m args below meth c T locs cells slots) (hx : p.tables.exec = Jvm.exec) {x y : Int32} (pc' : Nat) (hd : decode c.code pc = .ok (.isub, 1)) (hp : pc + 1 = pc') (K : Wp p e s below Q kc ks (T.setTop (mkF m pc' Ls (.int (x - y) :: st)))) : Wp p e s below Q kc ks (T.setTop (mkF m pc Ls (.int y :: .int x :: st))) := by
  subst hp; exact Wp.step (fun _ k => XS.isub X.here hx rfl hd rfl k) K
theorem W.lsub (X : Stand p l e R s m args below meth c T locs cells slots) (hx : p.tables.exec = Jvm.exec) {x y : Int64} (pc' : Nat) (hd : decode c.code pc = .ok (.lsub, 1)) (hp : pc + 1 = pc') (K : Wp p e s below Q kc ks (T.setTop (mkF m pc' Ls (.long (x - y) :: st)))) : Wp p e s below Q kc ks (T.setTop (mkF m pc Ls (.long y :: .long x :: st))) := by
  subst hp; exact Wp.step (fun _ k => XS.lsub X.here hx rfl hd rfl k) K
theorem W.imul (X : Stand p l e R s m args below meth c T locs cells slots) (hx : p.tables.exec = Jvm.exec) {x y : Int32} (pc' : Nat) (hd : decode c.code pc = .ok (.imul, 1)) (hp : pc + 1 = pc') (K : Wp p e s below Q kc ks (T.setTop (mkF m pc' Ls (.int (x * y) :: st)))) : Wp p e s below Q kc ks (T.setTop (mkF m pc Ls (.int y :: .int x :: st))) := by
  subst hp; exact Wp.step (fun _ k => XS.imul X.here hx rfl hd rfl k) K
theorem W.lmul (X : Stand p l e R s m args below meth c T locs cells slots) (hx : p.tables.exec = Jvm.exec) {x y : Int64} (pc' : Nat) (hd : decode c.code pc = .ok (.lmul, 1)) (hp : pc + 1 = pc') (K : Wp p e s below Q kc ks (T.setTop (mkF m pc' Ls (.long (x * y) :: st)))) : Wp p e s below Q kc ks (T.setTop (mkF m pc Ls (.long y :: .long x :: st))) := by
  subst hp; exact Wp.step (fun _ k => XS.lmul X.here hx rfl hd rfl k) K
theorem W.iand (X : Stand p l e R s m args below meth c T locs cells slots) (hx : p.tables.exec = Jvm.exec) {x y : Int32} (pc' : Nat) (hd : decode c.code pc = .ok (.iand, 1)) (hp : pc + 1 = pc') (K : Wp p e s below Q kc ks (T.setTop (mkF m pc' Ls (.int (x &&& y) :: st)))) : Wp p e s below Q kc ks (T.setTop (mkF m pc Ls (.int y :: .int x :: st))) := by
  subst hp; exact Wp.step (fun _ k => XS.iand X.here hx rfl hd rfl k) K
theorem W.land (X : Stand p l e R s m args below meth c T locs cells slots) (hx : p.tables.exec = Jvm.exec) {x y : Int64} (pc' : Nat) (hd : decode c.code pc = .ok (.land, 1)) (hp : pc + 1 = pc') (K : Wp p e s below Q kc ks (T.setTop (mkF m pc' Ls (.long (x &&& y) :: st)))) : Wp p e s below Q kc ks (T.setTop (mkF m pc Ls (.long y :: .long x :: st))) := by
  subst hp; exact Wp.step (fun _ k => XS.land X.here hx rfl hd rfl k) K
theorem W.ior (X : Stand p l e R s m args below meth c T locs cells slots) (hx : p.tables.exec = Jvm.exec) {x y : Int32} (pc' : Nat) (hd : decode c.code pc = .ok (.ior, 1)) (hp : pc + 1 = pc') (K : Wp p e s below Q kc ks (T.setTop (mkF m pc' Ls (.int (x ||| y) :: st)))) : Wp p e s below Q kc ks (T.setTop (mkF m pc Ls (.int y :: .int x :: st))) := by
  subst hp; exact Wp.step (fun _ k => XS.ior X.here hx rfl hd rfl k) K
theorem W.lor (X : Stand p l e R s m args below meth c T locs cells slots) (hx : p.tables.exec = Jvm.exec) {x y : Int64} (pc' : Nat) (hd : decode c.code pc = .ok (.lor, 1)) (hp : pc + 1 = pc') (K : Wp p e s below Q kc ks (T.setTop (mkF m pc' Ls (.long (x ||| y) :: st)))) : Wp p e s below Q kc ks (T.setTop (mkF m pc Ls (.long y :: .long x :: st))) := by
  subst hp; exact Wp.step (fun _ k => XS.lor X.here hx rfl hd rfl k) K
theorem W.ixor (X : Stand p l e R s m args below meth c T locs cells slots) (hx : p.tables.exec = Jvm.exec) {x y : Int32} (pc' : Nat) (hd : decode c.code pc = .ok (.ixor, 1)) (hp : pc + 1 = pc') (K : Wp p e s below Q kc ks (T.setTop (mkF m pc' Ls (.int (x ^^^ y) :: st)))) : Wp p e s below Q kc ks (T.setTop (mkF m pc Ls (.int y :: .int x :: st))) := by
  subst hp; exact Wp.step (fun _ k => XS.ixor X.here hx rfl hd rfl k) K
theorem W.lxor (X : Stand p l e R s m args below meth c T locs cells slots) (hx : p.tables.exec = Jvm.exec) {x y : Int64} (pc' : Nat) (hd : decode c.code pc = .ok (.lxor, 1)) (hp : pc + 1 = pc') (K : Wp p e s below Q kc ks (T.setTop (mkF m pc' Ls (.long (x ^^^ y) :: st)))) : Wp p e s below Q kc ks (T.setTop (mkF m pc Ls (.long y :: .long x :: st))) := by
  subst hp; exact Wp.step (fun _ k => XS.lxor X.here hx rfl hd rfl k) K
theorem W.ishl (X : Stand p l e R s m args below meth c T locs cells slots) (hx : p.tables.exec = Jvm.exec) {x y : Int32} (pc' : Nat) (hd : decode c.code pc = .ok (.ishl, 1)) (hp : pc + 1 = pc') (K : Wp p e s below Q kc ks (T.setTop (mkF m pc' Ls (.int (x <<< (y &&& 31)) :: st)))) : Wp p e s below Q kc ks (T.setTop (mkF m pc Ls (.int y :: .int x :: st))) := by
  subst hp; exact Wp.step (fun _ k => XS.ishl X.here hx rfl hd rfl k) K
theorem W.ishr (X : Stand p l e R s m args below meth c T locs cells slots) (hx : p.tables.exec = Jvm.exec) {x y : Int32} (pc' : Nat) (hd : decode c.code pc = .ok (.ishr, 1)) (hp : pc + 1 = pc') (K : Wp p e s below Q kc ks (T.setTop (mkF m pc' Ls (.int (x >>> (y &&& 31)) :: st)))) : Wp p e s below Q kc ks (T.setTop (mkF m pc Ls (.int y :: .int x :: st))) := by
  subst hp; exact Wp.step (fun _ k => XS.ishr X.here hx rfl hd rfl k) K
theorem W.iushr (X : Stand p l e R s m args below meth c T locs cells slots) (hx : p.tables.exec = Jvm.exec) {x y : Int32} (pc' : Nat) (hd : decode c.code pc = .ok (.iushr, 1)) (hp : pc + 1 = pc') (K : Wp p e s below Q kc ks (T.setTop (mkF m pc' Ls (.int ((x.toUInt32 >>> (y &&& 31).toUInt32).toInt32) :: st)))) : Wp p e s below Q kc ks (T.setTop (mkF m pc Ls (.int y :: .int x :: st))) := by
  subst hp; exact Wp.step (fun _ k => XS.iushr X.here hx rfl hd rfl k) K
theorem W.lshl (X : Stand p l e R s m args below meth c T locs cells slots) (hx : p.tables.exec = Jvm.exec) {x : Int64} {y : Int32} (pc' : Nat) (hd : decode c.code pc = .ok (.lshl, 1)) (hp : pc + 1 = pc') (K : Wp p e s below Q kc ks (T.setTop (mkF m pc' Ls (.long (x <<< (y &&& 0x3f).toInt64) :: st)))) : Wp p e s below Q kc ks (T.setTop (mkF m pc Ls (.int y :: .long x :: st))) := by
  subst hp; exact Wp.step (fun _ k => XS.lshl X.here hx rfl hd rfl k) K
theorem W.lshr (X : Stand p l e R s m args below meth c T locs cells slots) (hx : p.tables.exec = Jvm.exec) {x : Int64} {y : Int32} (pc' : Nat) (hd : decode c.code pc = .ok (.lshr, 1)) (hp : pc + 1 = pc') (K : Wp p e s below Q kc ks (T.setTop (mkF m pc' Ls (.long (x >>> (y &&& 0x3f).toInt64) :: st)))) : Wp p e s below Q kc ks (T.setTop (mkF m pc Ls (.int y :: .long x :: st))) := by
  subst hp; exact Wp.step (fun _ k => XS.lshr X.here hx rfl hd rfl k) K
theorem W.lushr (X : Stand p l e R s m args below meth c T locs cells slots) (hx : p.tables.exec = Jvm.exec) {x : Int64} {y : Int32} (pc' : Nat) (hd : decode c.code pc = .ok (.lushr, 1)) (hp : pc + 1 = pc') (K : Wp p e s below Q kc ks (T.setTop (mkF m pc' Ls (.long ((x.toUInt64 >>> (y &&& 0x3f).toInt64.toUInt64).toInt64) :: st)))) : Wp p e s below Q kc ks (T.setTop (mkF m pc Ls (.int y :: .long x :: st))) := by
  subst hp; exact Wp.step (fun _ k => XS.lushr X.here hx rfl hd rfl k) K
theorem W.lcmp (X : Stand p l e R s m args below meth c T locs cells slots) (hx : p.tables.exec = Jvm.exec) {x y : Int64} (pc' : Nat) (hd : decode c.code pc = .ok (.lcmp, 1)) (hp : pc + 1 = pc') (K : Wp p e s below Q kc ks (T.setTop (mkF m pc' Ls (.int (lcmpW x y) :: st)))) : Wp p e s below Q kc ks (T.setTop (mkF m pc Ls (.long y :: .long x :: st))) := by
  subst hp; exact Wp.step (fun _ k => XS.lcmp X.here hx rfl hd rfl k) K
theorem W.irem (X : Stand p l e R s m args below meth c T locs cells slots) (hx : p.tables.exec = Jvm.exec) {x y : Int32} (pc' : Nat) (hd : decode c.code pc = .ok (.irem, 1)) (hy : y ≠ 0) (hp : pc + 1 = pc') (K : Wp p e s below Q kc ks (T.setTop (mkF m pc' Ls (.int (x % y) :: st)))) : Wp p e s below Q kc ks (T.setTop (mkF m pc Ls (.int y :: .int x :: st))) := by
  subst hp; exact Wp.step (fun _ k => iremM X hx (g := mkF m pc Ls (.int y :: .int x :: st)) rfl hd rfl hy k) K
theorem W.idiv (X : Stand p l e R s m args below meth c T locs cells slots) (hx : p.tables.exec = Jvm.exec) {x y : Int32} (pc' : Nat) (hd : decode c.code pc = .ok (.idiv, 1)) (hy : y ≠ 0) (hp : pc + 1 = pc') (K : Wp p e s below Q kc ks (T.setTop (mkF m pc' Ls (.int (x / y) :: st)))) : Wp p e s below Q kc ks (T.setTop (mkF m pc Ls (.int y :: .int x :: st))) := by
  subst hp; exact Wp.step (fun _ k => XS.idiv X.here hx rfl hd rfl hy k) K
theorem W.ineg (X : Stand p l e R s m args below meth c T locs cells slots) (hx : p.tables.exec = Jvm.exec) {x : Int32} (pc' : Nat) (hd : decode c.code pc = .ok (.ineg, 1)) (hp : pc + 1 = pc') (K : Wp p e s below Q kc ks (T.setTop (mkF m pc' Ls (.int (-x) :: st)))) : Wp p e s below Q kc ks (T.setTop (mkF m pc Ls (.int x :: st))) := by
  subst hp; exact Wp.step (fun _ k => XS.ineg X.here hx rfl hd rfl k) K
theorem W.lneg (X : Stand p l e R s m args below meth c T locs cells slots) (hx : p.tables.exec = Jvm.exec) {x : Int64} (pc' : Nat) (hd : decode c.code pc = .ok (.lneg, 1)) (hp : pc + 1 = pc') (K : Wp p e s below Q kc ks (T.setTop (mkF m pc' Ls (.long (-x) :: st)))) : Wp p e s below Q kc ks (T.setTop (mkF m pc Ls (.long x :: st))) := by
  subst hp; exact Wp.step (fun _ k => XS.lneg X.here hx rfl hd rfl k) K
theorem W.i2b (X : Stand p l e R s m args below meth c T locs cells slots) (hx : p.tables.exec = Jvm.exec) {x : Int32} (pc' : Nat) (hd : decode c.code pc = .ok (.i2b, 1)) (hp : pc + 1 = pc') (K : Wp p e s below Q kc ks (T.setTop (mkF m pc' Ls (.int x.toInt8.toInt32 :: st)))) : Wp p e s below Q kc ks (T.setTop (mkF m pc Ls (.int x :: st))) := by
  subst hp; exact Wp.step (fun _ k => XS.i2b X.here hx rfl hd rfl k) K
theorem W.i2c (X : Stand p l e R s m args below meth c T locs cells slots) (hx : p.tables.exec = Jvm.exec) {x : Int32} (pc' : Nat) (hd : decode c.code pc = .ok (.i2c, 1)) (hp : pc + 1 = pc') (K : Wp p e s below Q kc ks (T.setTop (mkF m pc' Ls (.int x.toUInt32.toUInt16.toUInt32.toInt32 :: st)))) : Wp p e s below Q kc ks (T.setTop (mkF m pc Ls (.int x :: st))) := by
  subst hp; exact Wp.step (fun _ k => XS.i2c X.here hx rfl hd rfl k) K
theorem W.i2s (X : Stand p l e R s m args below meth c T locs cells slots) (hx : p.tables.exec = Jvm.exec) {x : Int32} (pc' : Nat) (hd : decode c.code pc = .ok (.i2s, 1)) (hp : pc + 1 = pc') (K : Wp p e s below Q kc ks (T.setTop (mkF m pc' Ls (.int x.toInt16.toInt32 :: st)))) : Wp p e s below Q kc ks (T.setTop (mkF m pc Ls (.int x :: st))) := by
  subst hp; exact Wp.step (fun _ k => XS.i2s X.here hx rfl hd rfl k) K
theorem W.i2l (X : Stand p l e R s m args below meth c T locs cells slots) (hx : p.tables.exec = Jvm.exec) {x : Int32} (pc' : Nat) (hd : decode c.code pc = .ok (.i2l, 1)) (hp : pc + 1 = pc') (K : Wp p e s below Q kc ks (T.setTop (mkF m pc' Ls (.long x.toInt64 :: st)))) : Wp p e s below Q kc ks (T.setTop (mkF m pc Ls (.int x :: st))) := by
  subst hp; exact Wp.step (fun _ k => XS.i2l X.here hx rfl hd rfl k) K
theorem W.l2i (X : Stand p l e R s m args below meth c T locs cells slots) (hx : p.tables.exec = Jvm.exec) {x : Int64} (pc' : Nat) (hd : decode c.code pc = .ok (.l2i, 1)) (hp : pc + 1 = pc') (K : Wp p e s below Q kc ks (T.setTop (mkF m pc' Ls (.int x.toInt32 :: st)))) : Wp p e s below Q kc ks (T.setTop (mkF m pc Ls (.long x :: st))) := by
  subst hp; exact Wp.step (fun _ k => XS.l2i X.here hx rfl hd rfl k) K
theorem W.dup (X : Stand p l e R s m args below meth c T locs cells slots) (hx : p.tables.exec = Jvm.exec) {x : Value} (pc' : Nat) (hd : decode c.code pc = .ok (.dup, 1)) (hc : x.category = 1) (hp : pc + 1 = pc') (K : Wp p e s below Q kc ks (T.setTop (mkF m pc' Ls (x :: x :: st)))) : Wp p e s below Q kc ks (T.setTop (mkF m pc Ls (x :: st))) := by
  subst hp; exact Wp.step (fun _ k => XS.dup X.here hx rfl hd rfl hc k) K
theorem W.pop1 (X : Stand p l e R s m args below meth c T locs cells slots) (hx : p.tables.exec = Jvm.exec) {x : Value} (pc' : Nat) (hd : decode c.code pc = .ok (.pop, 1)) (hc : x.category = 1) (hp : pc + 1 = pc') (K : Wp p e s below Q kc ks (T.setTop (mkF m pc' Ls st))) : Wp p e s below Q kc ks (T.setTop (mkF m pc Ls (x :: st))) := by
  subst hp; exact Wp.step (fun _ k => XS.pop X.here hx rfl hd rfl hc k) K
theorem W.dup2 (X : Stand p l e R s m args below meth c T locs cells slots) (hx : p.tables.exec = Jvm.exec) {x y : Value} (pc' : Nat) (hd : decode c.code pc = .ok (.dup2, 1)) (hc : x.category = 1) (hc' : y.category = 1) (hp : pc + 1 = pc') (K : Wp p e s below Q kc ks (T.setTop (mkF m pc' Ls (x :: y :: x :: y :: st)))) : Wp p e s below Q kc ks (T.setTop (mkF m pc Ls (x :: y :: st))) := by
  subst hp; exact Wp.step (fun _ k => XT.dup2 X.here hx rfl hd rfl hc hc' k) K
theorem W.dupX1 (X : Stand p l e R s m args below meth c T locs cells slots) (hx : p.tables.exec = Jvm.exec) {x y : Value} (pc' : Nat) (hd : decode c.code pc = .ok (.dup_x1, 1)) (hc : x.category = 1) (hc' : y.category = 1) (hp : pc + 1 = pc') (K : Wp p e s below Q kc ks (T.setTop (mkF m pc' Ls (x :: y :: x :: st)))) : Wp p e s below Q kc ks (T.setTop (mkF m pc Ls (x :: y :: st))) := by
  subst hp; exact Wp.step (fun _ k => XS.dupX1 X.here hx rfl hd rfl hc hc' k) K
theorem W.goto (X : Stand p l e R s m args below meth c T locs cells slots) (hx : p.tables.exec = Jvm.exec) {o : Int} (pc' : Nat) (hd : decode c.code pc = .ok (.goto o, 3)) (ho : 0 ≤ (pc : Int) + o) (hp : ((pc : Int) + o).toNat = pc') (K : Wp p e s below Q kc ks (T.setTop (mkF m pc' Ls st))) : Wp p e s below Q kc ks (T.setTop (mkF m pc Ls st)) :=
  Wp.step (fun _ k => XS.goto X.here hx rfl rfl hd ho hp k) K
theorem W.icmp (X : Stand p l e R s m args below meth c T locs cells slots) (hx : p.tables.exec = Jvm.exec) {cd : ClassFile.Cond} {o : Int} {x y : Int32} (pcT pcF : Nat) (hd : decode c.code pc = .ok (.if_icmp cd o, 3)) (ho : 0 ≤ (pc : Int) + o) (hp : ((pc : Int) + o).toNat = pcT) (hq : pc + 3 = pcF) (KT : if_icmp.holds cd x y = true → Wp p e s below Q kc ks (T.setTop (mkF m pcT Ls st))) (KF : if_icmp.holds cd x y = false → Wp p e s below Q kc ks (T.setTop (mkF m pcF Ls st))) : Wp p e s below Q kc ks (T.setTop (mkF m pc Ls (.int y :: .int x :: st))) := by
  subst hq
  cases hh : if_icmp.holds cd x y
  · exact Wp.step (fun _ k => XS.icmpNo X.here hx rfl hd rfl hh k) (KF hh)
  · exact Wp.step (fun _ k => XS.icmpYes X.here hx rfl rfl hd rfl hh ho hp k) (KT hh)
theorem W.ifc (X : Stand p l e R s m args below meth c T locs cells slots) (hx : p.tables.exec = Jvm.exec) {cd : ClassFile.Cond} {o : Int} {x : Int32} (pcT pcF : Nat) (hd : decode c.code pc = .ok (.ifCond cd o, 3)) (ho : 0 ≤ (pc : Int) + o) (hp : ((pc : Int) + o).toNat = pcT) (hq : pc + 3 = pcF) (KT : if_icmp.holds cd x 0 = true → Wp p e s below Q kc ks (T.setTop (mkF m pcT Ls st))) (KF : if_icmp.holds cd x 0 = false → Wp p e s below Q kc ks (T.setTop (mkF m pcF Ls st))) : Wp p e s below Q kc ks (T.setTop (mkF m pc Ls (.int x :: st))) := by
  subst hq
  rw [← if0] at KT KF
  cases hh : ifCond.holds cd x
  · exact Wp.step (fun _ k => XS.ifNo X.here hx rfl hd rfl hh k) (KF hh)
  · exact Wp.step (fun _ k => XS.ifYes X.here hx rfl rfl hd rfl hh ho hp k) (KT hh)
theorem W.icmpEq (X : Stand p l e R s m args below meth c T locs cells slots) (hx : p.tables.exec = Jvm.exec) {o : Int} {x y : Int32} (pcT pcF : Nat) (hd : decode c.code pc = .ok (.if_icmp .eq o, 3)) (ho : 0 ≤ (pc : Int) + o) (hp : ((pc : Int) + o).toNat = pcT) (hq : pc + 3 = pcF) (KT : x = y → Wp p e s below Q kc ks (T.setTop (mkF m pcT Ls st))) (KF : ¬ x = y → Wp p e s below Q kc ks (T.setTop (mkF m pcF Ls st))) : Wp p e s below Q kc ks (T.setTop (mkF m pc Ls (.int y :: .int x :: st))) :=
  W.icmp X hx pcT pcF hd ho hp hq (fun hh => KT (Decidable.byContradiction fun q => by rw [(feq q).1] at hh; cases hh)) (fun hh => KF (fun q => by rw [(teq q).1] at hh; cases hh))
theorem W.ifEq (X : Stand p l e R s m args below meth c T locs cells slots) (hx : p.tables.exec = Jvm.exec) {o : Int} {x : Int32} (pcT pcF : Nat) (hd : decode c.code pc = .ok (.ifCond .eq o, 3)) (ho : 0 ≤ (pc : Int) + o) (hp : ((pc : Int) + o).toNat = pcT) (hq : pc + 3 = pcF) (KT : x = 0 → Wp p e s below Q kc ks (T.setTop (mkF m pcT Ls st))) (KF : ¬ x = 0 → Wp p e s below Q kc ks (T.setTop (mkF m pcF Ls st))) : Wp p e s below Q kc ks (T.setTop (mkF m pc Ls (.int x :: st))) :=
  W.ifc X hx pcT pcF hd ho hp hq (fun hh => KT (Decidable.byContradiction fun q => by rw [(feq q).1] at hh; cases hh)) (fun hh => KF (fun q => by rw [(teq q).1] at hh; cases hh))
theorem W.icmpNe (X : Stand p l e R s m args below meth c T locs cells slots) (hx : p.tables.exec = Jvm.exec) {o : Int} {x y : Int32} (pcT pcF : Nat) (hd : decode c.code pc = .ok (.if_icmp .ne o, 3)) (ho : 0 ≤ (pc : Int) + o) (hp : ((pc : Int) + o).toNat = pcT) (hq : pc + 3 = pcF) (KT : ¬ x = y → Wp p e s below Q kc ks (T.setTop (mkF m pcT Ls st))) (KF : x = y → Wp p e s below Q kc ks (T.setTop (mkF m pcF Ls st))) : Wp p e s below Q kc ks (T.setTop (mkF m pc Ls (.int y :: .int x :: st))) :=
  W.icmp X hx pcT pcF hd ho hp hq (fun hh => KT (fun q => by rw [(teq q).2] at hh; cases hh)) (fun hh => KF (Decidable.byContradiction fun q => by rw [(feq q).2] at hh; cases hh))
theorem W.ifNe (X : Stand p l e R s m args below meth c T locs cells slots) (hx : p.tables.exec = Jvm.exec) {o : Int} {x : Int32} (pcT pcF : Nat) (hd : decode c.code pc = .ok (.ifCond .ne o, 3)) (ho : 0 ≤ (pc : Int) + o) (hp : ((pc : Int) + o).toNat = pcT) (hq : pc + 3 = pcF) (KT : ¬ x = 0 → Wp p e s below Q kc ks (T.setTop (mkF m pcT Ls st))) (KF : x = 0 → Wp p e s below Q kc ks (T.setTop (mkF m pcF Ls st))) : Wp p e s below Q kc ks (T.setTop (mkF m pc Ls (.int x :: st))) :=
  W.ifc X hx pcT pcF hd ho hp hq (fun hh => KT (fun q => by rw [(teq q).2] at hh; cases hh)) (fun hh => KF (Decidable.byContradiction fun q => by rw [(feq q).2] at hh; cases hh))
theorem W.icmpLt (X : Stand p l e R s m args below meth c T locs cells slots) (hx : p.tables.exec = Jvm.exec) {o : Int} {x y : Int32} (pcT pcF : Nat) (hd : decode c.code pc = .ok (.if_icmp .lt o, 3)) (ho : 0 ≤ (pc : Int) + o) (hp : ((pc : Int) + o).toNat = pcT) (hq : pc + 3 = pcF) (KT : x < y → Wp p e s below Q kc ks (T.setTop (mkF m pcT Ls st))) (KF : ¬ x < y → Wp p e s below Q kc ks (T.setTop (mkF m pcF Ls st))) : Wp p e s below Q kc ks (T.setTop (mkF m pc Ls (.int y :: .int x :: st))) :=
  W.icmp X hx pcT pcF hd ho hp hq (fun hh => KT (Decidable.byContradiction fun q => by rw [(flt q).1] at hh; cases hh)) (fun hh => KF (fun q => by rw [(tlt q).1] at hh; cases hh))
theorem W.ifLt (X : Stand p l e R s m args below meth c T locs cells slots) (hx : p.tables.exec = Jvm.exec) {o : Int} {x : Int32} (pcT pcF : Nat) (hd : decode c.code pc = .ok (.ifCond .lt o, 3)) (ho : 0 ≤ (pc : Int) + o) (hp : ((pc : Int) + o).toNat = pcT) (hq : pc + 3 = pcF) (KT : x < 0 → Wp p e s below Q kc ks (T.setTop (mkF m pcT Ls st))) (KF : ¬ x < 0 → Wp p e s below Q kc ks (T.setTop (mkF m pcF Ls st))) : Wp p e s below Q kc ks (T.setTop (mkF m pc Ls (.int x :: st))) :=
  W.ifc X hx pcT pcF hd ho hp hq (fun hh => KT (Decidable.byContradiction fun q => by rw [(flt q).1] at hh; cases hh)) (fun hh => KF (fun q => by rw [(tlt q).1] at hh; cases hh))
theorem W.icmpGe (X : Stand p l e R s m args below meth c T locs cells slots) (hx : p.tables.exec = Jvm.exec) {o : Int} {x y : Int32} (pcT pcF : Nat) (hd : decode c.code pc = .ok (.if_icmp .ge o, 3)) (ho : 0 ≤ (pc : Int) + o) (hp : ((pc : Int) + o).toNat = pcT) (hq : pc + 3 = pcF) (KT : ¬ x < y → Wp p e s below Q kc ks (T.setTop (mkF m pcT Ls st))) (KF : x < y → Wp p e s below Q kc ks (T.setTop (mkF m pcF Ls st))) : Wp p e s below Q kc ks (T.setTop (mkF m pc Ls (.int y :: .int x :: st))) :=
  W.icmp X hx pcT pcF hd ho hp hq (fun hh => KT (fun q => by rw [(tlt q).2.1] at hh; cases hh)) (fun hh => KF (Decidable.byContradiction fun q => by rw [(flt q).2.1] at hh; cases hh))
theorem W.ifGe (X : Stand p l e R s m args below meth c T locs cells slots) (hx : p.tables.exec = Jvm.exec) {o : Int} {x : Int32} (pcT pcF : Nat) (hd : decode c.code pc = .ok (.ifCond .ge o, 3)) (ho : 0 ≤ (pc : Int) + o) (hp : ((pc : Int) + o).toNat = pcT) (hq : pc + 3 = pcF) (KT : ¬ x < 0 → Wp p e s below Q kc ks (T.setTop (mkF m pcT Ls st))) (KF : x < 0 → Wp p e s below Q kc ks (T.setTop (mkF m pcF Ls st))) : Wp p e s below Q kc ks (T.setTop (mkF m pc Ls (.int x :: st))) :=
  W.ifc X hx pcT pcF hd ho hp hq (fun hh => KT (fun q => by rw [(tlt q).2.1] at hh; cases hh)) (fun hh => KF (Decidable.byContradiction fun q => by rw [(flt q).2.1] at hh; cases hh))
theorem W.icmpGt (X : Stand p l e R s m args below meth c T locs cells slots) (hx : p.tables.exec = Jvm.exec) {o : Int} {x y : Int32} (pcT pcF : Nat) (hd : decode c.code pc = .ok (.if_icmp .gt o, 3)) (ho : 0 ≤ (pc : Int) + o) (hp : ((pc : Int) + o).toNat = pcT) (hq : pc + 3 = pcF) (KT : y < x → Wp p e s below Q kc ks (T.setTop (mkF m pcT Ls st))) (KF : ¬ y < x → Wp p e s below Q kc ks (T.setTop (mkF m pcF Ls st))) : Wp p e s below Q kc ks (T.setTop (mkF m pc Ls (.int y :: .int x :: st))) :=
  W.icmp X hx pcT pcF hd ho hp hq (fun hh => KT (Decidable.byContradiction fun q => by rw [(flt q).2.2.1] at hh; cases hh)) (fun hh => KF (fun q => by rw [(tlt q).2.2.1] at hh; cases hh))
theorem W.ifGt (X : Stand p l e R s m args below meth c T locs cells slots) (hx : p.tables.exec = Jvm.exec) {o : Int} {x : Int32} (pcT pcF : Nat) (hd : decode c.code pc = .ok (.ifCond .gt o, 3)) (ho : 0 ≤ (pc : Int) + o) (hp : ((pc : Int) + o).toNat = pcT) (hq : pc + 3 = pcF) (KT : 0 < x → Wp p e s below Q kc ks (T.setTop (mkF m pcT Ls st))) (KF : ¬ 0 < x → Wp p e s below Q kc ks (T.setTop (mkF m pcF Ls st))) : Wp p e s below Q kc ks (T.setTop (mkF m pc Ls (.int x :: st))) :=
  W.ifc X hx pcT pcF hd ho hp hq (fun hh => KT (Decidable.byContradiction fun q => by rw [(flt q).2.2.1] at hh; cases hh)) (fun hh => KF (fun q => by rw [(tlt q).2.2.1] at hh; cases hh))
theorem W.icmpLe (X : Stand p l e R s m args below meth c T locs cells slots) (hx : p.tables.exec = Jvm.exec) {o : Int} {x y : Int32} (pcT pcF : Nat) (hd : decode c.code pc = .ok (.if_icmp .le o, 3)) (ho : 0 ≤ (pc : Int) + o) (hp : ((pc : Int) + o).toNat = pcT) (hq : pc + 3 = pcF) (KT : ¬ y < x → Wp p e s below Q kc ks (T.setTop (mkF m pcT Ls st))) (KF : y < x → Wp p e s below Q kc ks (T.setTop (mkF m pcF Ls st))) : Wp p e s below Q kc ks (T.setTop (mkF m pc Ls (.int y :: .int x :: st))) :=
  W.icmp X hx pcT pcF hd ho hp hq (fun hh => KT (fun q => by rw [(tlt q).2.2.2] at hh; cases hh)) (fun hh => KF (Decidable.byContradiction fun q => by rw [(flt q).2.2.2] at hh; cases hh))
theorem W.ifLe (X : Stand p l e R s m args below meth c T locs cells slots) (hx : p.tables.exec = Jvm.exec) {o : Int} {x : Int32} (pcT pcF : Nat) (hd : decode c.code pc = .ok (.ifCond .le o, 3)) (ho : 0 ≤ (pc : Int) + o) (hp : ((pc : Int) + o).toNat = pcT) (hq : pc + 3 = pcF) (KT : ¬ 0 < x → Wp p e s below Q kc ks (T.setTop (mkF m pcT Ls st))) (KF : 0 < x → Wp p e s below Q kc ks (T.setTop (mkF m pcF Ls st))) : Wp p e s below Q kc ks (T.setTop (mkF m pc Ls (.int x :: st))) :=
  W.ifc X hx pcT pcF hd ho hp hq (fun hh => KT (fun q => by rw [(tlt q).2.2.2] at hh; cases hh)) (fun hh => KF (Decidable.byContradiction fun q => by rw [(flt q).2.2.2] at hh; cases hh))
theorem W.lifEq (X : Stand p l e R s m args below meth c T locs cells slots) (hx : p.tables.exec = Jvm.exec) {o : Int} {x y : Int64} (pcT pcF : Nat) (hd : decode c.code pc = .ok (.ifCond .eq o, 3)) (ho : 0 ≤ (pc : Int) + o) (hp : ((pc : Int) + o).toNat = pcT) (hq : pc + 3 = pcF) (KT : x = y → Wp p e s below Q kc ks (T.setTop (mkF m pcT Ls st))) (KF : ¬ x = y → Wp p e s below Q kc ks (T.setTop (mkF m pcF Ls st))) : Wp p e s below Q kc ks (T.setTop (mkF m pc Ls (.int (lcmpW x y) :: st))) :=
  W.ifEq X hx pcT pcF hd ho hp hq (fun q => KT ((lw_eq x y).mp q)) (fun q => KF (fun r => q ((lw_eq x y).mpr r)))
theorem W.lifNe (X : Stand p l e R s m args below meth c T locs cells slots) (hx : p.tables.exec = Jvm.exec) {o : Int} {x y : Int64} (pcT pcF : Nat) (hd : decode c.code pc = .ok (.ifCond .ne o, 3)) (ho : 0 ≤ (pc : Int) + o) (hp : ((pc : Int) + o).toNat = pcT) (hq : pc + 3 = pcF) (KT : ¬ x = y → Wp p e s below Q kc ks (T.setTop (mkF m pcT Ls st))) (KF : x = y → Wp p e s below Q kc ks (T.setTop (mkF m pcF Ls st))) : Wp p e s below Q kc ks (T.setTop (mkF m pc Ls (.int (lcmpW x y) :: st))) :=
  W.ifNe X hx pcT pcF hd ho hp hq (fun q => KT (fun r => q ((lw_eq x y).mpr r))) (fun q => KF ((lw_eq x y).mp q))
theorem W.lifLt (X : Stand p l e R s m args below meth c T locs cells slots) (hx : p.tables.exec = Jvm.exec) {o : Int} {x y : Int64} (pcT pcF : Nat) (hd : decode c.code pc = .ok (.ifCond .lt o, 3)) (ho : 0 ≤ (pc : Int) + o) (hp : ((pc : Int) + o).toNat = pcT) (hq : pc + 3 = pcF) (KT : x < y → Wp p e s below Q kc ks (T.setTop (mkF m pcT Ls st))) (KF : ¬ x < y → Wp p e s below Q kc ks (T.setTop (mkF m pcF Ls st))) : Wp p e s below Q kc ks (T.setTop (mkF m pc Ls (.int (lcmpW x y) :: st))) :=
  W.ifLt X hx pcT pcF hd ho hp hq (fun q => KT ((lw_lt x y).mp q)) (fun q => KF (fun r => q ((lw_lt x y).mpr r)))
theorem W.lifGe (X : Stand p l e R s m args below meth c T locs cells slots) (hx : p.tables.exec = Jvm.exec) {o : Int} {x y : Int64} (pcT pcF : Nat) (hd : decode c.code pc = .ok (.ifCond .ge o, 3)) (ho : 0 ≤ (pc : Int) + o) (hp : ((pc : Int) + o).toNat = pcT) (hq : pc + 3 = pcF) (KT : ¬ x < y → Wp p e s below Q kc ks (T.setTop (mkF m pcT Ls st))) (KF : x < y → Wp p e s below Q kc ks (T.setTop (mkF m pcF Ls st))) : Wp p e s below Q kc ks (T.setTop (mkF m pc Ls (.int (lcmpW x y) :: st))) :=
  W.ifGe X hx pcT pcF hd ho hp hq (fun q => KT (fun r => q ((lw_lt x y).mpr r))) (fun q => KF ((lw_lt x y).mp q))
theorem W.lifGt (X : Stand p l e R s m args below meth c T locs cells slots) (hx : p.tables.exec = Jvm.exec) {o : Int} {x y : Int64} (pcT pcF : Nat) (hd : decode c.code pc = .ok (.ifCond .gt o, 3)) (ho : 0 ≤ (pc : Int) + o) (hp : ((pc : Int) + o).toNat = pcT) (hq : pc + 3 = pcF) (KT : y < x → Wp p e s below Q kc ks (T.setTop (mkF m pcT Ls st))) (KF : ¬ y < x → Wp p e s below Q kc ks (T.setTop (mkF m pcF Ls st))) : Wp p e s below Q kc ks (T.setTop (mkF m pc Ls (.int (lcmpW x y) :: st))) :=
  W.ifGt X hx pcT pcF hd ho hp hq (fun q => KT ((lw_gt x y).mp q)) (fun q => KF (fun r => q ((lw_gt x y).mpr r)))
theorem W.lifLe (X : Stand p l e R s m args below meth c T locs cells slots) (hx : p.tables.exec = Jvm.exec) {o : Int} {x y : Int64} (pcT pcF : Nat) (hd : decode c.code pc = .ok (.ifCond .le o, 3)) (ho : 0 ≤ (pc : Int) + o) (hp : ((pc : Int) + o).toNat = pcT) (hq : pc + 3 = pcF) (KT : ¬ y < x → Wp p e s below Q kc ks (T.setTop (mkF m pcT Ls st))) (KF : y < x → Wp p e s below Q kc ks (T.setTop (mkF m pcF Ls st))) : Wp p e s below Q kc ks (T.setTop (mkF m pc Ls (.int (lcmpW x y) :: st))) :=
  W.ifLe X hx pcT pcF hd ho hp hq (fun q => KT (fun r => q ((lw_gt x y).mpr r))) (fun q => KF ((lw_gt x y).mp q))
theorem W.nonnullR (X : Stand p l e R s m args below meth c T locs cells slots) (hx : p.tables.exec = Jvm.exec) {o : Int} {b : Addr} (pcT : Nat) (hd : decode c.code pc = .ok (.ifnonnull o, 3)) (ho : 0 ≤ (pc : Int) + o) (hp : ((pc : Int) + o).toNat = pcT) (K : Wp p e s below Q kc ks (T.setTop (mkF m pcT Ls st))) : Wp p e s below Q kc ks (T.setTop (mkF m pc Ls (.ref b :: st))) :=
  Wp.step (fun _ k => XS.ifnonnullYes X.here hx rfl rfl hd rfl ho hp k) K
theorem W.nonnullN (X : Stand p l e R s m args below meth c T locs cells slots) (hx : p.tables.exec = Jvm.exec) {o : Int} (pc' : Nat) (hd : decode c.code pc = .ok (.ifnonnull o, 3)) (hp : pc + 3 = pc') (K : Wp p e s below Q kc ks (T.setTop (mkF m pc' Ls st))) : Wp p e s below Q kc ks (T.setTop (mkF m pc Ls (.null :: st))) := by
  subst hp; exact Wp.step (fun _ k => XS.ifnonnullNo X.here hx rfl hd rfl k) K
theorem W.nullN (X : Stand p l e R s m args below meth c T locs cells slots) (hx : p.tables.exec = Jvm.exec) {o : Int} (pcT : Nat) (hd : decode c.code pc = .ok (.ifnull o, 3)) (ho : 0 ≤ (pc : Int) + o) (hp : ((pc : Int) + o).toNat = pcT) (K : Wp p e s below Q kc ks (T.setTop (mkF m pcT Ls st))) : Wp p e s below Q kc ks (T.setTop (mkF m pc Ls (.null :: st))) :=
  Wp.step (fun _ k => XS.ifnullYes X.here hx rfl rfl hd rfl ho hp k) K
theorem W.nullR (X : Stand p l e R s m args below meth c T locs cells slots) (hx : p.tables.exec = Jvm.exec) {o : Int} {b : Addr} (pc' : Nat) (hd : decode c.code pc = .ok (.ifnull o, 3)) (hp : pc + 3 = pc') (K : Wp p e s below Q kc ks (T.setTop (mkF m pc' Ls st))) : Wp p e s below Q kc ks (T.setTop (mkF m pc Ls (.ref b :: st))) := by
  subst hp; exact Wp.step (fun _ k => XS.ifnullNo X.here hx rfl hd rfl k) K
theorem W.acmpE (X : Stand p l e R s m args below meth c T locs cells slots) (hx : p.tables.exec = Jvm.exec) {o : Int} {x y : Value} (pcT pcF : Nat) (h1 : x.isRef = true) (h2 : y.isRef = true) (hd : decode c.code pc = .ok (.if_acmp .eq o, 3)) (ho : 0 ≤ (pc : Int) + o) (hp : ((pc : Int) + o).toNat = pcT) (hq : pc + 3 = pcF) (KT : x = y → Wp p e s below Q kc ks (T.setTop (mkF m pcT Ls st))) (KF : ¬ x = y → Wp p e s below Q kc ks (T.setTop (mkF m pcF Ls st))) : Wp p e s below Q kc ks (T.setTop (mkF m pc Ls (y :: x :: st))) := by
  by_cases q : x = y
  · exact Wp.step (fun _ k => acmp X hx (g := mkF m pc Ls (y :: x :: st)) rfl h1 h2 rfl hd rfl (same := true) (by simp [q]) ho (pc' := pcT) (by simp [acV, hp]) k) (KT q)
  · exact Wp.step (fun _ k => acmp X hx (g := mkF m pc Ls (y :: x :: st)) rfl h1 h2 rfl hd rfl (same := false) (by simp [q]) ho (pc' := pcF) (by simp [acV, hq]) k) (KF q)
theorem W.acmpN (X : Stand p l e R s m args below meth c T locs cells slots) (hx : p.tables.exec = Jvm.exec) {o : Int} {x y : Value} (pcT pcF : Nat) (h1 : x.isRef = true) (h2 : y.isRef = true) (hd : decode c.code pc = .ok (.if_acmp .ne o, 3)) (ho : 0 ≤ (pc : Int) + o) (hp : ((pc : Int) + o).toNat = pcT) (hq : pc + 3 = pcF) (KT : ¬ x = y → Wp p e s below Q kc ks (T.setTop (mkF m pcT Ls st))) (KF : x = y → Wp p e s below Q kc ks (T.setTop (mkF m pcF Ls st))) : Wp p e s below Q kc ks (T.setTop (mkF m pc Ls (y :: x :: st))) := by
  by_cases q : x = y
  · exact Wp.step (fun _ k => acmp X hx (g := mkF m pc Ls (y :: x :: st)) rfl h1 h2 rfl hd rfl (same := true) (by simp [q]) ho (pc' := pcF) (by simp [acV, hq]) k) (KF q)
  · exact Wp.step (fun _ k => acmp X hx (g := mkF m pc Ls (y :: x :: st)) rfl h1 h2 rfl hd rfl (same := false) (by simp [q]) ho (pc' := pcT) (by simp [acV, hp]) k) (KT q)
theorem W.newarr (X : Stand p l e R s m args below meth c T locs cells slots) (hx : p.tables.exec = Jvm.exec) (hZ : Z.Warmed39 s.vm) {aty : ArrayType} {z : Int32} (pc' : Nat) (k cap : Nat) (w : (Jvm.Cond.arrayClass (newarray.typeOf aty)).before a0 Z = true) (eT : T.heap = h) (hd : decode c.code pc = .ok (.newarray aty, 2)) (hz : z.toInt = (k : Int)) (hcap : k ≤ cap) (hb : cap * 8 ≤ 536870912) (hc : cells + 1 ≤ R.cells) (hl : slots + cap ≤ R.slots) (hp : pc + 2 = pc')
    (K : ∀ T' h' a, a = h.size → Stand p l e R s m args below meth c T' locs (cells + 1) (slots + cap) → T'.heap = h' → Ext h h' → IArr Z h' a (newarray.typeOf aty) k (fun _ => defaultValue (newarray.typeOf aty)) → Wp p e s below Q kc ks (T'.setTop (mkF m pc' Ls (.ref a :: st)))) : Wp p e s below Q kc ks (T.setTop (mkF m pc Ls (.int z :: st))) := by
  subst hp
  obtain ⟨q1, q2⟩ := nat_of hz
  obtain ⟨T', h', cA, X', e', E, A, stp⟩ := newP X hx hZ w eT (g := mkF m pc Ls (.int z :: st)) rfl hd rfl q1 (cap := cap) (by omega) hb hc hl
  exact Wp.step stp (K T' h' _ rfl X' e' E (IArr.fresh A q2))
theorem IArr.inb {j : Int32} {i : Nat} {cl : Cell} (S : cl.slots.size = n) (hj : j.toInt = (i : Int)) (hi : i < n) : ¬ (j < 0 ∨ cl.slots.size ≤ j.toNatClampNeg) := by
  obtain ⟨q1, q2⟩ := nat_of hj
  rw [S, q2]; intro q; rcases q with q | q
  · exact q1 q
  · omega
theorem W.arrlen (X : Stand p l e R s m args below meth c T locs cells slots) (hx : p.tables.exec = Jvm.exec) (hZ : Z.Warmed39 s.vm) (pc' : Nat) (eT : T.heap = h) (A : IArr Z h a ty n f) (v : Int32) (hv : n.toInt32 = v) (hd : decode c.code pc = .ok (.arraylength, 1)) (hp : pc + 1 = pc') (K : Wp p e s below Q kc ks (T.setTop (mkF m pc' Ls (.int v :: st)))) : Wp p e s below Q kc ks (T.setTop (mkF m pc Ls (.ref a :: st))) := by
  subst hp hv
  obtain ⟨cl, A, S, H⟩ := A
  subst S
  exact Wp.step (fun t k => X.arraylength hx (by rw [eT]; exact A.1) (State.isArrayOf_alike hZ.alike A.2.1) (g := mkF m pc Ls (.ref a :: st)) rfl rfl hd t k) K
theorem W.iaload (X : Stand p l e R s m args below meth c T locs cells slots) (hx : p.tables.exec = Jvm.exec) (hZ : Z.Warmed39 s.vm) {j : Int32} (pc' : Nat) (i : Nat) (v : Value) (eT : T.heap = h) (A : IArr Z h a .int n f) (hj : j.toInt = (i : Int)) (hi : i < n) (hv : f i = v) (hd : decode c.code pc = .ok (.iaload, 1)) (hp : pc + 1 = pc') (K : Wp p e s below Q kc ks (T.setTop (mkF m pc' Ls (v :: st)))) : Wp p e s below Q kc ks (T.setTop (mkF m pc Ls (.int j :: .ref a :: st))) := by
  subst hp hv
  obtain ⟨cl, A, S, H⟩ := A
  exact Wp.step (fun t k => X.iaload hx (by rw [eT]; exact A.1) (State.isArrayOf_alike hZ.alike A.2.1) A.2.2 (IArr.inb S hj hi) (by rw [(nat_of hj).2]; exact H i hi) (g := mkF m pc Ls (.int j :: .ref a :: st)) rfl rfl hd t k) K
theorem W.laload (X : Stand p l e R s m args below meth c T locs cells slots) (hx : p.tables.exec = Jvm.exec) (hZ : Z.Warmed39 s.vm) {j : Int32} (pc' : Nat) (i : Nat) (v : Value) (eT : T.heap = h) (A : IArr Z h a .long n f) (hj : j.toInt = (i : Int)) (hi : i < n) (hv : f i = v) (hd : decode c.code pc = .ok (.laload, 1)) (hp : pc + 1 = pc') (K : Wp p e s below Q kc ks (T.setTop (mkF m pc' Ls (v :: st)))) : Wp p e s below Q kc ks (T.setTop (mkF m pc Ls (.int j :: .ref a :: st))) := by
  subst hp hv
  obtain ⟨cl, A, S, H⟩ := A
  exact Wp.step (fun t k => X.laload hx (by rw [eT]; exact A.1) (State.isArrayOf_alike hZ.alike A.2.1) A.2.2 (IArr.inb S hj hi) (by rw [(nat_of hj).2]; exact H i hi) (g := mkF m pc Ls (.int j :: .ref a :: st)) rfl rfl hd t k) K
theorem W.caload (X : Stand p l e R s m args below meth c T locs cells slots) (hx : p.tables.exec = Jvm.exec) (hZ : Z.Warmed39 s.vm) {j : Int32} (pc' : Nat) (i : Nat) (v : Value) (eT : T.heap = h) (A : IArr Z h a .char n f) (hj : j.toInt = (i : Int)) (hi : i < n) (hv : f i = v) (hd : decode c.code pc = .ok (.caload, 1)) (hp : pc + 1 = pc') (K : Wp p e s below Q kc ks (T.setTop (mkF m pc' Ls (v :: st)))) : Wp p e s below Q kc ks (T.setTop (mkF m pc Ls (.int j :: .ref a :: st))) := by
  subst hp hv
  obtain ⟨cl, A, S, H⟩ := A
  exact Wp.step (fun t k => X.caload hx (by rw [eT]; exact A.1) (State.isArrayOf_alike hZ.alike A.2.1) A.2.2 (IArr.inb S hj hi) (by rw [(nat_of hj).2]; exact H i hi) (g := mkF m pc Ls (.int j :: .ref a :: st)) rfl rfl hd t k) K
theorem W.baload (X : Stand p l e R s m args below meth c T locs cells slots) (hx : p.tables.exec = Jvm.exec) (hZ : Z.Warmed39 s.vm) {j : Int32} (pc' : Nat) (i : Nat) (v : Value) (eT : T.heap = h) (A : IArr Z h a .byte n f) (hj : j.toInt = (i : Int)) (hi : i < n) (hv : f i = v) (hd : decode c.code pc = .ok (.baload, 1)) (hp : pc + 1 = pc') (K : Wp p e s below Q kc ks (T.setTop (mkF m pc' Ls (v :: st)))) : Wp p e s below Q kc ks (T.setTop (mkF m pc Ls (.int j :: .ref a :: st))) := by
  subst hp hv
  obtain ⟨cl, A, S, H⟩ := A
  exact Wp.step (fun t k => X.baloadBytes hx (by rw [eT]; exact A.1) (State.isArrayOf_alike hZ.alike A.2.1) A.2.2 (IArr.inb S hj hi) (by rw [(nat_of hj).2]; exact H i hi) (g := mkF m pc Ls (.int j :: .ref a :: st)) rfl rfl hd t k) K
theorem W.zaload (X : Stand p l e R s m args below meth c T locs cells slots) (hx : p.tables.exec = Jvm.exec) (hZ : Z.Warmed39 s.vm) {j : Int32} (pc' : Nat) (i : Nat) (v : Value) (eT : T.heap = h) (A : IArr Z h a .boolean n f) (hj : j.toInt = (i : Int)) (hi : i < n) (hv : f i = v) (hd : decode c.code pc = .ok (.baload, 1)) (hp : pc + 1 = pc') (K : Wp p e s below Q kc ks (T.setTop (mkF m pc' Ls (v :: st)))) : Wp p e s below Q kc ks (T.setTop (mkF m pc Ls (.int j :: .ref a :: st))) := by
  subst hp hv
  obtain ⟨cl, A, S, H⟩ := A
  exact Wp.step (fun t k => X.baloadBooleans hx (by rw [eT]; exact A.1) (State.isArrayOf_alike hZ.alike A.2.1) A.2.2 (IArr.inb S hj hi) (by rw [(nat_of hj).2]; exact H i hi) (g := mkF m pc Ls (.int j :: .ref a :: st)) rfl rfl hd t k) K
theorem W.aaload (X : Stand p l e R s m args below meth c T locs cells slots) (hx : p.tables.exec = Jvm.exec) (hZ : Z.Warmed39 s.vm) {j : Int32} (pc' : Nat) (i : Nat) (v : Value) (eT : T.heap = h) (A : IArr Z h a ty n f) (hty : ty.isReference = true) (hj : j.toInt = (i : Int)) (hi : i < n) (hv : f i = v) (hd : decode c.code pc = .ok (.aaload, 1)) (hp : pc + 1 = pc') (K : Wp p e s below Q kc ks (T.setTop (mkF m pc' Ls (v :: st)))) : Wp p e s below Q kc ks (T.setTop (mkF m pc Ls (.int j :: .ref a :: st))) := by
  subst hp hv
  obtain ⟨cl, A, S, H⟩ := A
  exact Wp.step (fun t k => X.aaload hx (by rw [eT]; exact A.1) (State.isArrayOf_alike hZ.alike A.2.1) hty A.2.2 (IArr.inb S hj hi) (by rw [(nat_of hj).2]; exact H i hi) (g := mkF m pc Ls (.int j :: .ref a :: st)) rfl rfl hd t k) K
theorem W.iastore (X : Stand p l e R s m args below meth c T locs cells slots) (hx : p.tables.exec = Jvm.exec) (hZ : Z.Warmed39 s.vm) {j : Int32} {x : Int32} (pc' : Nat) (i : Nat) (eT : T.heap = h) (A : IArr Z h a .int n f) (hj : j.toInt = (i : Int)) (hi : i < n) (hd : decode c.code pc = .ok (.iastore, 1)) (hp : pc + 1 = pc')
    (K : ∀ T' h', Stand p l e R s m args below meth c T' (locs ++ [⟨a, i⟩]) cells slots → T'.heap = h' → Wr h h' a i (.int x) → IArr Z h' a .int n (upd f i (.int x)) → Wp p e s below Q kc ks (T'.setTop (mkF m pc' Ls st))) : Wp p e s below Q kc ks (T.setTop (mkF m pc Ls (.int x :: .int j :: .ref a :: st))) := by
  subst hp
  obtain ⟨cl, A0, S, H⟩ := A
  obtain ⟨T', h', X', e', W, stp⟩ := stI X hx hZ eT A0 (IArr.inb S hj hi) (g := mkF m pc Ls (.int x :: .int j :: .ref a :: st)) rfl rfl hd
  rw [(nat_of hj).2] at X' W
  exact Wp.step stp (K T' h' X' e' W (IArr.same ⟨cl, A0, S, H⟩ W))
theorem W.lastore (X : Stand p l e R s m args below meth c T locs cells slots) (hx : p.tables.exec = Jvm.exec) (hZ : Z.Warmed39 s.vm) {j : Int32} {x : Int64} (pc' : Nat) (i : Nat) (eT : T.heap = h) (A : IArr Z h a .long n f) (hj : j.toInt = (i : Int)) (hi : i < n) (hd : decode c.code pc = .ok (.lastore, 1)) (hp : pc + 1 = pc')
    (K : ∀ T' h', Stand p l e R s m args below meth c T' (locs ++ [⟨a, i⟩]) cells slots → T'.heap = h' → Wr h h' a i (.long x) → IArr Z h' a .long n (upd f i (.long x)) → Wp p e s below Q kc ks (T'.setTop (mkF m pc' Ls st))) : Wp p e s below Q kc ks (T.setTop (mkF m pc Ls (.long x :: .int j :: .ref a :: st))) := by
  subst hp
  obtain ⟨cl, A0, S, H⟩ := A
  obtain ⟨T', h', X', e', W, stp⟩ := stJ X hx hZ eT A0 (IArr.inb S hj hi) (g := mkF m pc Ls (.long x :: .int j :: .ref a :: st)) rfl rfl hd
  rw [(nat_of hj).2] at X' W
  exact Wp.step stp (K T' h' X' e' W (IArr.same ⟨cl, A0, S, H⟩ W))
theorem W.castore (X : Stand p l e R s m args below meth c T locs cells slots) (hx : p.tables.exec = Jvm.exec) (hZ : Z.Warmed39 s.vm) {j : Int32} {x : Int32} (pc' : Nat) (i : Nat) (eT : T.heap = h) (A : IArr Z h a .char n f) (hj : j.toInt = (i : Int)) (hi : i < n) (hd : decode c.code pc = .ok (.castore, 1)) (hp : pc + 1 = pc')
    (K : ∀ T' h', Stand p l e R s m args below meth c T' (locs ++ [⟨a, i⟩]) cells slots → T'.heap = h' → Wr h h' a i (.int (nar .char x)) → IArr Z h' a .char n (upd f i (.int (nar .char x))) → Wp p e s below Q kc ks (T'.setTop (mkF m pc' Ls st))) : Wp p e s below Q kc ks (T.setTop (mkF m pc Ls (.int x :: .int j :: .ref a :: st))) := by
  subst hp
  obtain ⟨cl, A0, S, H⟩ := A
  obtain ⟨T', h', X', e', W, stp⟩ := stC X hx hZ eT A0 (IArr.inb S hj hi) (g := mkF m pc Ls (.int x :: .int j :: .ref a :: st)) rfl rfl hd
  rw [(nat_of hj).2] at X' W
  exact Wp.step stp (K T' h' X' e' W (IArr.same ⟨cl, A0, S, H⟩ W))
theorem W.bastore (X : Stand p l e R s m args below meth c T locs cells slots) (hx : p.tables.exec = Jvm.exec) (hZ : Z.Warmed39 s.vm) {j : Int32} {x : Int32} (pc' : Nat) (i : Nat) (eT : T.heap = h) (A : IArr Z h a .byte n f) (hj : j.toInt = (i : Int)) (hi : i < n) (hd : decode c.code pc = .ok (.bastore, 1)) (hp : pc + 1 = pc')
    (K : ∀ T' h', Stand p l e R s m args below meth c T' (locs ++ [⟨a, i⟩]) cells slots → T'.heap = h' → Wr h h' a i (.int (nar .byte x)) → IArr Z h' a .byte n (upd f i (.int (nar .byte x))) → Wp p e s below Q kc ks (T'.setTop (mkF m pc' Ls st))) : Wp p e s below Q kc ks (T.setTop (mkF m pc Ls (.int x :: .int j :: .ref a :: st))) := by
  subst hp
  obtain ⟨cl, A0, S, H⟩ := A
  obtain ⟨T', h', X', e', W, stp⟩ := stB X hx hZ eT A0 (IArr.inb S hj hi) (g := mkF m pc Ls (.int x :: .int j :: .ref a :: st)) rfl rfl hd
  rw [(nat_of hj).2] at X' W
  exact Wp.step stp (K T' h' X' e' W (IArr.same ⟨cl, A0, S, H⟩ W))
theorem W.zastore (X : Stand p l e R s m args below meth c T locs cells slots) (hx : p.tables.exec = Jvm.exec) (hZ : Z.Warmed39 s.vm) {j : Int32} {x : Int32} (pc' : Nat) (i : Nat) (eT : T.heap = h) (A : IArr Z h a .boolean n f) (hj : j.toInt = (i : Int)) (hi : i < n) (hd : decode c.code pc = .ok (.bastore, 1)) (hp : pc + 1 = pc')
    (K : ∀ T' h', Stand p l e R s m args below meth c T' (locs ++ [⟨a, i⟩]) cells slots → T'.heap = h' → Wr h h' a i (.int (nar .boolean x)) → IArr Z h' a .boolean n (upd f i (.int (nar .boolean x))) → Wp p e s below Q kc ks (T'.setTop (mkF m pc' Ls st))) : Wp p e s below Q kc ks (T.setTop (mkF m pc Ls (.int x :: .int j :: .ref a :: st))) := by
  subst hp
  obtain ⟨cl, A0, S, H⟩ := A
  obtain ⟨T', h', X', e', W, stp⟩ := stZ X hx hZ eT A0 (IArr.inb S hj hi) (g := mkF m pc Ls (.int x :: .int j :: .ref a :: st)) rfl rfl hd
  rw [(nat_of hj).2] at X' W
  exact Wp.step stp (K T' h' X' e' W (IArr.same ⟨cl, A0, S, H⟩ W))
theorem W.getS (X : Stand p l e R s m args below meth c T locs cells slots) (hx : p.tables.exec = Jvm.exec) (hZ : Z.Warmed39 s.vm) {own R0 O nm d : String} {index : Nat} {v : Value} (pc' : Nat) (hown : s.vm.findClass own = some m.cls) (w : (Jvm.Cond.fieldLink own index R0 nm d).before a0 Z = true) (via : Via Z R0 O nm d) (eT : T.heap = h) (F : Sta Z h O nm d v) (hd : decode c.code pc = .ok (.getstatic index, 3)) (hp : pc + 3 = pc')
    (K : ∀ T', Stand p l e R s m args below meth c T' locs cells slots → T'.heap = h → Wp p e s below Q kc ks (T'.setTop (mkF m pc' Ls (v :: st)))) : Wp p e s below Q kc ks (T.setTop (mkF m pc Ls st)) := by
  subst hp
  obtain ⟨T', X', e', stp⟩ := Jvm.RoadKit.getS X hx hZ (host := "") hown w via eT F (g := mkF m pc Ls st) rfl hd
  exact Wp.step stp (K T' X' e')
theorem W.getF (X : Stand p l e R s m args below meth c T locs cells slots) (hx : p.tables.exec = Jvm.exec) (hZ : Z.Warmed39 s.vm) {own R0 O nm d : String} {index : Nat} {v : Value} (pc' : Nat) (hown : s.vm.findClass own = some m.cls) (w : (Jvm.Cond.fieldLink own index R0 nm d).before a0 Z = true) (via : Via Z R0 O nm d) (eT : T.heap = h) (F : Fld Z h a O nm d v) (hd : decode c.code pc = .ok (.getfield index, 3)) (hp : pc + 3 = pc')
    (K : ∀ T', Stand p l e R s m args below meth c T' locs cells slots → T'.heap = h → Wp p e s below Q kc ks (T'.setTop (mkF m pc' Ls (v :: st)))) : Wp p e s below Q kc ks (T.setTop (mkF m pc Ls (.ref a :: st))) := by
  subst hp
  obtain ⟨T', X', e', stp⟩ := Jvm.RoadKit.getF X hx hZ (host := "") hown (Or.inl w) via eT F (g := mkF m pc Ls (.ref a :: st)) rfl rfl hd
  exact Wp.step stp (K T' X' e')
theorem W.putF (X : Stand p l e R s m args below meth c T locs cells slots) (hx : p.tables.exec = Jvm.exec) (hZ : Z.Warmed39 s.vm) {own R0 O nm d C : String} {index kk : Nat} {v old : Value} {ty : FieldType} (pc' : Nat) (hown : s.vm.findClass own = some m.cls) (w : (Jvm.Cond.fieldLink own index R0 nm d).before a0 Z = true) (via : Via Z R0 O nm d) (eT : T.heap = h) (F : Fld Z h a O nm d old) (E : Exa Z h a C) (L : (Jvm.Cond.lays C O nm d).before a0 Z = true ∨ ((Jvm.Cond.laysFinal C O nm d).before a0 Z = true ∧ own = O ∧ meth.name = "<init>")) (wi : (Jvm.Cond.instantiable C kk).before a0 Z = true)
    (hty : parseFieldDescriptor d = some ty) (hn : narrow ty v = v) (hf : fits ty v = true) (hd : decode c.code pc = .ok (.putfield index, 3)) (hp : pc + 3 = pc')
    (K : ∀ T' h', Stand p l e R s m args below meth c T' (locs ++ [⟨a, Jvm.RoadKit.slotOf Z O nm d⟩]) cells slots → T'.heap = h' → Wr h h' a (Jvm.RoadKit.slotOf Z O nm d) v → Fld Z h' a O nm d v → Wp p e s below Q kc ks (T'.setTop (mkF m pc' Ls st))) : Wp p e s below Q kc ks (T.setTop (mkF m pc Ls (v :: .ref a :: st))) := by
  subst hp
  obtain ⟨T', h', X', e', W, stp⟩ := Jvm.RoadKit.putF X hx hZ hown (host := "") (Or.inl w) via eT F E L wi hty hn hf (g := mkF m pc Ls (v :: .ref a :: st)) rfl rfl hd
  exact Wp.step stp (K T' h' X' e' W (F.same W))
theorem W.newO (X : Stand p l e R s m args below meth c T locs cells slots) (hx : p.tables.exec = Jvm.exec) (hZ : Z.Warmed39 s.vm) {own C : String} {index k : Nat} (pc' : Nat) (hown : s.vm.findClass own = some m.cls) (w : (Jvm.Cond.classLink own index C).before a0 Z = true) (wi : (Jvm.Cond.instantiable C k).before a0 Z = true) (wz : (Jvm.Cond.initialized C).before a0 Z = true) (eT : T.heap = h) (hd : decode c.code pc = .ok (.new index, 3)) (hc : cells + 1 ≤ R.cells) (hl : slots + k ≤ R.slots) (hp : pc + 3 = pc')
    (K : ∀ T' h' a, a = h.size → Stand p l e R s m args below meth c T' locs (cells + 1) (slots + k) → T'.heap = h' → Ext h h' → Exa Z h' a C → (∀ {O nm d : String} {ty : FieldType}, Laid Z a0 C O nm d → parseFieldDescriptor d = some ty → Fld Z h' a O nm d (defaultValue ty)) → Wp p e s below Q kc ks (T'.setTop (mkF m pc' Ls (.ref a :: st)))) : Wp p e s below Q kc ks (T.setTop (mkF m pc Ls st)) := by
  subst hp
  obtain ⟨T', h', X', e', E, A, D, -, stp⟩ := Jvm.RoadKit.newO X hx hZ hown w wi wz eT (g := mkF m pc Ls st) rfl hd hc hl
  exact Wp.step stp (K T' h' _ rfl X' e' E A D)
theorem W.initO (X : Stand p l e R s m args below meth c T locs cells slots) (hx : p.tables.exec = Jvm.exec) (hZ : Z.Warmed39 s.vm) {own : String} {idx : Nat} (pc' W : Nat) (hown : s.vm.findClass own = some m.cls) (w1 : (Jvm.Cond.methodLink own idx Lib.objectInit).before a0 Z = true) (w2 : (Jvm.Cond.instanceMethod Lib.objectInit).before a0 Z = true) (w3 : (Jvm.Cond.code Lib.objectInit ⟨#[0xb1]⟩ 1 none).before a0 Z = true) (eT : T.heap = h) (hsz : Ls.size = c.maxLocals) (hd : decode c.code pc = .ok (.invokespecial idx, 3)) (hf : 1 ≤ R.frames) (hW : (st.map fun v => v.category).sum = W) (hl : W + 12 ≤ R.locals) (hp : pc + 3 = pc')
    (K : ∀ T', Stand p l e R s m args below meth c T' locs cells slots → T'.heap = h → Wp p e s below Q kc ks (T'.setTop (mkF m pc' Ls st))) : Wp p e s below Q kc ks (T.setTop (mkF m pc Ls (.ref a :: st))) := by
  subst hp
  obtain ⟨T', X', e', stp⟩ := Jvm.RoadKit.initO X hx hZ hown w1 w2 w3 eT (g := mkF m pc Ls (.ref a :: st)) rfl hsz rfl hd hf (W := W) (by show 2 * 0 + _ ≤ _; omega) hl
  exact Wp.step stp (K T' X' e')
/-! calls -/
theorem W.callS (X : Stand p l e R s m args below meth c T locs cells slots) (hx : p.tables.exec = Jvm.exec) (hZ : Z.Warmed39 s.vm) {own : String} {index : Nat} {y : MethodName} {bytes : ByteArray} {maxL : Nat} {ret : Option FieldType} {rm : Room} {Qc : Option Value → Heap → List Loc → Prop} {ps : List FieldType} {r : Option FieldType} {stk : List Value} (pc' W : Nat) (argsL : List Value)
    (hown : s.vm.findClass own = some m.cls) (w1 : (Jvm.Cond.methodLink own index y).before a0 Z = true) (w2 : (Jvm.Cond.static y).before a0 Z = true) (w3 : (Jvm.Cond.initialized y.cls).before a0 Z = true) (w4 : (Jvm.Cond.code y bytes maxL ret).before a0 Z = true) (hy : y.cls ≠ "java/lang/invoke/MethodHandle" ∧ y.cls ≠ "java/lang/invoke/VarHandle")
    (hpd : parseMethodDescriptor y.desc = some ⟨ps, r⟩) (hlen : argsL.length = ps.length) (eT : T.heap = h) (hM : Con l Z y bytes maxL ret [] rm argsL.toArray h Qc) (hd : decode c.code pc = .ok (.invokestatic index, 3)) (hsz : Ls.size = c.maxLocals) (hstk : stk = argsL.reverse ++ rest) (hW : (rest.map fun v => v.category).sum = W)
    (hf : rm.frames + 1 ≤ R.frames) (hl : W + (maxL + 11) + rm.locals ≤ R.locals) (hc : cells + rm.cells ≤ R.cells) (hsl : slots + rm.slots ≤ R.slots) (hp : pc + 3 = pc')
    (K : ∀ v T' L, Stand p l e R s m args below meth c T' (locs ++ L) (cells + rm.cells) (slots + rm.slots) → Qc v T'.heap L → Wp p e s below Q kc ks (T'.setTop (mkF m pc' Ls (v.toList ++ rest)))) : Wp p e s below Q kc ks (T.setTop (mkF m pc Ls stk)) := by
  subst hp hstk
  obtain ⟨v, vm₁, ⟨T', L', k', n'⟩, -, X', ⟨Lc, hQ, l1, l2, l3⟩, stp⟩ := Jvm.LawKit.callS X hx (y := y) hown (mvT hZ w1) (mvT hZ w2) (mvT hZ w3) (mvT hZ w4) hy (backOf (W := W) hM hZ w4 w3 hf hl) (g := mkF m pc Ls (argsL.reverse ++ rest)) rfl hsz (argsL := argsL) (rest := rest) (lenOf hpd hlen) rfl (by show 2 * 0 + _ ≤ _; omega) hd (fun _ _ => ⟨rfl, eT, hc, hsl⟩)
  dsimp only [Pt.U, Pt.locs, Pt.cells, Pt.slots] at X' l1 l2 l3 stp hQ
  subst l1 l2 l3
  exact Wp.step stp (K v T' Lc X' hQ)
theorem W.callI (X : Stand p l e R s m args below meth c T locs cells slots) (hx : p.tables.exec = Jvm.exec) (hZ : Z.Warmed39 s.vm) {own : String} {index : Nat} {y : MethodName} {bytes : ByteArray} {maxL : Nat} {rm : Room} {Qc : Option Value → Heap → List Loc → Prop} {ps : List FieldType} {r : Option FieldType} {stk : List Value} (pc' W : Nat) (b : Addr) (argsL : List Value) (hy1 : y.name = "<init>")
    (hown : s.vm.findClass own = some m.cls) (w1 : (Jvm.Cond.methodLink own index y).before a0 Z = true) (w2 : (Jvm.Cond.instanceMethod y).before a0 Z = true) (w3 : (Jvm.Cond.initialized y.cls).before a0 Z = true) (w4 : (Jvm.Cond.code y bytes maxL none).before a0 Z = true) (hy : y.cls ≠ "java/lang/invoke/MethodHandle" ∧ y.cls ≠ "java/lang/invoke/VarHandle")
    (hpd : parseMethodDescriptor y.desc = some ⟨ps, r⟩) (hlen : argsL.length = ps.length) (eT : T.heap = h) (hM : Con l Z y bytes maxL none [] rm (.ref b :: argsL).toArray h Qc) (hd : decode c.code pc = .ok (.invokespecial index, 3)) (hsz : Ls.size = c.maxLocals) (hstk : stk = argsL.reverse ++ .ref b :: rest) (hW : (rest.map fun v => v.category).sum = W)
    (hf : rm.frames + 1 ≤ R.frames) (hl : W + (maxL + 11) + rm.locals ≤ R.locals) (hc : cells + rm.cells ≤ R.cells) (hsl : slots + rm.slots ≤ R.slots) (hp : pc + 3 = pc')
    (K : ∀ v T' L, Stand p l e R s m args below meth c T' (locs ++ L) (cells + rm.cells) (slots + rm.slots) → Qc v T'.heap L → Wp p e s below Q kc ks (T'.setTop (mkF m pc' Ls (v.toList ++ rest)))) : Wp p e s below Q kc ks (T.setTop (mkF m pc Ls stk)) := by
  subst hp hstk
  obtain ⟨v, vm₁, ⟨T', L', k', n'⟩, -, X', ⟨Lc, hQ, l1, l2, l3⟩, stp⟩ := X.specialBack hx (y := y) hy1 hown (mvT hZ w1) (mvT hZ w2) (mvT hZ w4) hy (backOf (W := W) hM hZ w4 w3 hf hl) (g := mkF m pc Ls (argsL.reverse ++ .ref b :: rest)) rfl hsz (Steps.refl _) (a := b) (argsL := argsL) (rest := rest) (lenOf hpd hlen) rfl (by show 2 * 0 + _ ≤ _; omega) hd (fun _ _ => ⟨rfl, eT, hc, hsl⟩)
  dsimp only [Pt.U, Pt.locs, Pt.cells, Pt.slots] at X' l1 l2 l3 stp hQ
  subst l1 l2 l3
  exact Wp.chain stp (K v T' Lc X' hQ)
theorem W.callV (X : Stand p l e R s m args below meth c T locs cells slots) (hx : p.tables.exec = Jvm.exec) (hZ : Z.Warmed39 s.vm) {own C : String} {index : Nat} {y : MethodName} {bytes : ByteArray} {maxL : Nat} {ret : Option FieldType} {rm : Room} {Qc : Option Value → Heap → List Loc → Prop} {ps : List FieldType} {r : Option FieldType} {stk : List Value} (pc' W : Nat) (b : Addr) (argsL : List Value)
    (hown : s.vm.findClass own = some m.cls) (w1 : (Jvm.Cond.methodLink own index y).before a0 Z = true) (w2 : (Jvm.Cond.declares y).before a0 Z = true) (w5 : (Jvm.Cond.selects C y y).before a0 Z = true) (w6 : (Jvm.Cond.instanceMethod y).before a0 Z = true) (w3 : (Jvm.Cond.initialized y.cls).before a0 Z = true) (w4 : (Jvm.Cond.code y bytes maxL ret).before a0 Z = true) (hy : y.cls ≠ "java/lang/invoke/MethodHandle" ∧ y.cls ≠ "java/lang/invoke/VarHandle")
    (hpd : parseMethodDescriptor y.desc = some ⟨ps, r⟩) (hlen : argsL.length = ps.length) (eT : T.heap = h) (E : Exa Z h b C) (hM : Con l Z y bytes maxL ret [] rm (.ref b :: argsL).toArray h Qc) (hd : decode c.code pc = .ok (.invokevirtual index, 3)) (hsz : Ls.size = c.maxLocals) (hstk : stk = argsL.reverse ++ .ref b :: rest) (hW : (rest.map fun v => v.category).sum = W)
    (hf : rm.frames + 1 ≤ R.frames) (hl : W + (maxL + 11) + rm.locals ≤ R.locals) (hc : cells + rm.cells ≤ R.cells) (hsl : slots + rm.slots ≤ R.slots) (hp : pc + 3 = pc')
    (K : ∀ v T' L, Stand p l e R s m args below meth c T' (locs ++ L) (cells + rm.cells) (slots + rm.slots) → Qc v T'.heap L → Wp p e s below Q kc ks (T'.setTop (mkF m pc' Ls (v.toList ++ rest)))) : Wp p e s below Q kc ks (T.setTop (mkF m pc Ls stk)) := by
  subst hp hstk
  obtain ⟨cq, kq, qa, qb, qc⟩ := isOf hZ eT E
  obtain ⟨v, vm₁, ⟨T', L', k', n'⟩, -, X', ⟨Lc, hQ, l1, l2, l3⟩, stp⟩ := X.virtualBack hx (y := y) (z := y) hown (mvT hZ w1) (mvT hZ w2) (notFace_of_selects (args := args) (mvT hZ w5)) (mvT hZ w5) (mvT hZ w6) hy (backOf (W := W) hM hZ w4 w3 hf hl) qa qc (g := mkF m pc Ls (argsL.reverse ++ .ref b :: rest)) rfl hsz (Steps.refl _) (argsL := argsL) (rest := rest) (lenOf hpd hlen) rfl (by show 2 * 0 + _ ≤ _; omega) hd (fun _ _ => ⟨rfl, eT, hc, hsl⟩)
  dsimp only [Pt.U, Pt.locs, Pt.cells, Pt.slots] at X' l1 l2 l3 stp hQ
  subst l1 l2 l3
  exact Wp.chain stp (K v T' Lc X' hQ)
theorem ext_refl (h : Heap) : Ext h h := ⟨Nat.le_refl _, fun _ _ q => q⟩
theorem ext_trans {h1 h2 h3 : Heap} (E : Ext h1 h2) (E' : Ext h2 h3) : Ext h1 h3 := ⟨Nat.le_trans E.1 E'.1, fun a c q => E'.2 a c (E.2 a c q)⟩
theorem ext_wr {h0 : Heap} {sl : Nat} {v : Value} (E : Ext h0 h) (W : Wr h h' a sl v) (q : h0.size ≤ a) : Ext h0 h' := by
  refine ⟨by rw [W.size]; exact E.1, fun x cx hx => ?_⟩
  obtain ⟨c', e1, -, -, -, e5, -⟩ := wr_at W (E.2 x cx hx)
  rw [e1, e5 (fun z => by subst z; exact absurd (Array.getElem?_eq_some_iff.mp hx).1 (Nat.not_lt.mpr q))]
theorem ext_keep {h0 : Heap} {ws : List Addr} (E : Ext h0 h) (K : Keep h h' ws) (q : ∀ x ∈ ws, h0.size ≤ x) : Ext h0 h' :=
  ⟨Nat.le_trans E.1 K.1, fun x cx hx => K.2.1 x cx (E.2 x cx hx) fun z => absurd (Array.getElem?_eq_some_iff.mp hx).1 (Nat.not_lt.mpr (q x z))⟩
/-! switches -/
theorem W.lswHit (X : Stand p l e R s m args below meth c T locs cells slots) (hx : p.tables.exec = Jvm.exec) {k : Int32} {dflt : Int} {pairs : Array (Int × Int)} {len : Nat} (pc' : Nat) (y off : Int) (hd : decode c.code pc = .ok (.lookupswitch dflt pairs, len)) (hso : (pairs.toList.zip (pairs.toList.drop 1)).all (fun (a, next) => a.1 < next.1) = true) (hf : pairs.find? (·.1 == k.toInt) = some (y, off)) (ho : 0 ≤ (pc : Int) + off) (hp : ((pc : Int) + off).toNat = pc') (K : Wp p e s below Q kc ks (T.setTop (mkF m pc' Ls st))) : Wp p e s below Q kc ks (T.setTop (mkF m pc Ls (.int k :: st))) := by
  subst hp; exact Wp.step (fun t q => X.lookupswitchHit hx (g := mkF m pc Ls (.int k :: st)) rfl rfl hd hso hf ho t q) K
theorem W.lswMiss (X : Stand p l e R s m args below meth c T locs cells slots) (hx : p.tables.exec = Jvm.exec) {k : Int32} {dflt : Int} {pairs : Array (Int × Int)} {len : Nat} (pc' : Nat) (hd : decode c.code pc = .ok (.lookupswitch dflt pairs, len)) (hso : (pairs.toList.zip (pairs.toList.drop 1)).all (fun (a, next) => a.1 < next.1) = true) (hf : pairs.find? (·.1 == k.toInt) = none) (ho : 0 ≤ (pc : Int) + dflt) (hp : ((pc : Int) + dflt).toNat = pc') (K : Wp p e s below Q kc ks (T.setTop (mkF m pc' Ls st))) : Wp p e s below Q kc ks (T.setTop (mkF m pc Ls (.int k :: st))) := by
  subst hp; exact Wp.step (fun t q => X.lookupswitchMiss hx (g := mkF m pc Ls (.int k :: st)) rfl rfl hd hso hf ho t q) K
theorem W.tswIn (X : Stand p l e R s m args below meth c T locs cells slots) (hx : p.tables.exec = Jvm.exec) {k : Int32} {dflt low high : Int} {offs : Array Int} {len : Nat} (pc' : Nat) (off : Int) (hd : decode c.code pc = .ok (.tableswitch dflt low high offs, len)) (hi : ¬ (k.toInt < low ∨ k.toInt > high)) (hf : offs[(k.toInt - low).toNat]? = some off) (ho : 0 ≤ (pc : Int) + off) (hp : ((pc : Int) + off).toNat = pc') (K : Wp p e s below Q kc ks (T.setTop (mkF m pc' Ls st))) : Wp p e s below Q kc ks (T.setTop (mkF m pc Ls (.int k :: st))) := by
  subst hp; exact Wp.step (fun t q => X.tableswitchIn hx (g := mkF m pc Ls (.int k :: st)) rfl rfl hd hi hf ho t q) K
/-! arrays of references -/
def Takes (Z : State) (h : Heap) (a : Addr) (C : String) : Prop := ∃ (c : Cell) (ty : FieldType), Arr Z h a c ty ∧ Ovr Z c.cls C
theorem Takes.lt {C : String} (F : Takes Z h a C) : a < h.size := by obtain ⟨c, ty, A, -⟩ := F; exact A.lt
theorem Takes.ext {C : String} (F : Takes Z h a C) (E : Ext h h') : Takes Z h' a C := by obtain ⟨c, ty, A, O⟩ := F; exact ⟨c, ty, A.ext E, O⟩
theorem Takes.wr {C : String} {sl : Nat} {v : Value} (F : Takes Z h a C) (W : Wr h h' b sl v) : Takes Z h' a C := by
  obtain ⟨c, ty, A, O⟩ := F
  by_cases q : a = b
  · subst q; exact ⟨_, ty, A.same W, O⟩
  · exact ⟨c, ty, A.other W q, O⟩
theorem Takes.sto {C : String} {y : Addr} (F : Takes Z h a C) (I : Ins Z h y C true) : Sto Z h a (.ref y) := by obtain ⟨c, ty, A, O⟩ := F; exact Sto.of A O I
theorem W.newR (X : Stand p l e R s m args below meth c T locs cells slots) (hx : p.tables.exec = Jvm.exec) (hZ : Z.Warmed39 s.vm) {own C : String} {index : Nat} {z : Int32} (pc' : Nat) (k cap : Nat) (hown : s.vm.findClass own = some m.cls) (w1 : (Jvm.Cond.classLink own index C).before a0 Z = true) (w2 : (Jvm.Cond.arrayOver (.object C)).before a0 Z = true) (eT : T.heap = h) (hd : decode c.code pc = .ok (.anewarray index, 3)) (hz : z.toInt = (k : Int)) (hcap : k ≤ cap) (hb : cap * 8 ≤ 536870912) (hc : cells + 1 ≤ R.cells) (hl : slots + cap ≤ R.slots) (hp : pc + 3 = pc')
    (K : ∀ T' h' a, a = h.size → Stand p l e R s m args below meth c T' locs (cells + 1) (slots + cap) → T'.heap = h' → Ext h h' → IArr Z h' a (.object C) k (fun _ => defaultValue (.object C)) → Takes Z h' a C → Wp p e s below Q kc ks (T'.setTop (mkF m pc' Ls (.ref a :: st)))) : Wp p e s below Q kc ks (T.setTop (mkF m pc Ls (.int z :: st))) := by
  subst hp
  obtain ⟨q1, q2⟩ := nat_of hz
  obtain ⟨T', h', cA, X', e', E, A, O, stp⟩ := Jvm.RoadKit.newR X hx hZ hown w1 w2 eT (g := mkF m pc Ls (.int z :: st)) rfl hd rfl q1 (cap := cap) (by omega) hb hc hl
  exact Wp.step stp (K T' h' _ rfl X' e' E (IArr.fresh A q2) ⟨_, _, A, O⟩)
theorem W.aastore (X : Stand p l e R s m args below meth c T locs cells slots) (hx : p.tables.exec = Jvm.exec) (hZ : Z.Warmed39 s.vm) {j : Int32} {v : Value} (pc' : Nat) (i : Nat) (eT : T.heap = h) (A : IArr Z h a ty n f) (hty : ty.isReference = true) (F : Sto Z h a v) (hj : j.toInt = (i : Int)) (hi : i < n) (hd : decode c.code pc = .ok (.aastore, 1)) (hp : pc + 1 = pc')
    (K : ∀ T' h', Stand p l e R s m args below meth c T' (locs ++ [⟨a, i⟩]) cells slots → T'.heap = h' → Wr h h' a i v → IArr Z h' a ty n (upd f i v) → Wp p e s below Q kc ks (T'.setTop (mkF m pc' Ls st))) : Wp p e s below Q kc ks (T.setTop (mkF m pc Ls (v :: .int j :: .ref a :: st))) := by
  subst hp
  obtain ⟨cl, A0, S, H⟩ := A
  obtain ⟨T', h', X', e', W, stp⟩ := stR X hx hZ eT A0 (IArr.inb S hj hi) hty F (g := mkF m pc Ls (v :: .int j :: .ref a :: st)) rfl rfl hd
  rw [(nat_of hj).2] at X' W
  exact Wp.step stp (K T' h' X' e' W (IArr.same ⟨cl, A0, S, H⟩ W))
/-! a virtual call whose method is declared in a superclass -/
theorem W.callU (X : Stand p l e R s m args below meth c T locs cells slots) (hx : p.tables.exec = Jvm.exec) (hZ : Z.Warmed39 s.vm) {own C owner : String} {index : Nat} {y z : MethodName} {bytes : ByteArray} {maxL : Nat} {ret : Option FieldType} {rm : Room} {Qc : Option Value → Heap → List Loc → Prop} {ps : List FieldType} {r : Option FieldType} {stk : List Value} (pc' W : Nat) (b : Addr) (argsL : List Value)
    (hown : s.vm.findClass own = some m.cls) (w1 : (Jvm.Cond.methodLink own index y).before a0 Z = true) (w7 : (Jvm.Cond.sameMethod y.cls owner y.name y.desc).before a0 Z = true) (w2 : (Jvm.Cond.declares ⟨owner, y.name, y.desc⟩).before a0 Z = true) (hy : owner ≠ "java/lang/invoke/MethodHandle" ∧ owner ≠ "java/lang/invoke/VarHandle") (w5 : (Jvm.Cond.selects C y z).before a0 Z = true) (w6 : (Jvm.Cond.instanceMethod z).before a0 Z = true) (w3 : (Jvm.Cond.initialized z.cls).before a0 Z = true) (w4 : (Jvm.Cond.code z bytes maxL ret).before a0 Z = true)
    (hpd : parseMethodDescriptor y.desc = some ⟨ps, r⟩) (hlen : argsL.length = ps.length) (eT : T.heap = h) (E : Exa Z h b C) (hM : Con l Z z bytes maxL ret [] rm (.ref b :: argsL).toArray h Qc) (hd : decode c.code pc = .ok (.invokevirtual index, 3)) (hsz : Ls.size = c.maxLocals) (hstk : stk = argsL.reverse ++ .ref b :: rest) (hW : (rest.map fun v => v.category).sum = W)
    (hf : rm.frames + 1 ≤ R.frames) (hl : W + (maxL + 11) + rm.locals ≤ R.locals) (hc : cells + rm.cells ≤ R.cells) (hsl : slots + rm.slots ≤ R.slots) (hp : pc + 3 = pc')
    (K : ∀ v T' L, Stand p l e R s m args below meth c T' (locs ++ L) (cells + rm.cells) (slots + rm.slots) → Qc v T'.heap L → Wp p e s below Q kc ks (T'.setTop (mkF m pc' Ls (v.toList ++ rest)))) : Wp p e s below Q kc ks (T.setTop (mkF m pc Ls stk)) := by
  subst hp hstk
  obtain ⟨cq, kq, qa, qb, qc⟩ := isOf hZ eT E
  obtain ⟨v, vm₁, ⟨T', L', k', n'⟩, -, X', ⟨Lc, hQ, l1, l2, l3⟩, stp⟩ := X.virtualBackUp hx (x := y) (y := z) (owner := owner) hown (mvT hZ w1) (mvT hZ w7) (mvT hZ w2) hy (mvT hZ w5) (mvT hZ w6) (backOf (W := W) hM hZ w4 w3 hf hl) qa qc (g := mkF m pc Ls (argsL.reverse ++ .ref b :: rest)) rfl hsz (Steps.refl _) (argsL := argsL) (rest := rest) (lenOf hpd hlen) rfl (by show 2 * 0 + _ ≤ _; omega) hd (fun _ _ => ⟨rfl, eT, hc, hsl⟩)
  dsimp only [Pt.U, Pt.locs, Pt.cells, Pt.slots] at X' l1 l2 l3 stp hQ
  subst l1 l2 l3
  exact Wp.chain stp (K v T' Lc X' hQ)
/-! a private instance method -/
theorem W.callP (X : Stand p l e R s m args below meth c T locs cells slots) (hx : p.tables.exec = Jvm.exec) (hZ : Z.Warmed39 s.vm) {own : String} {index : Nat} {y : MethodName} {bytes : ByteArray} {maxL kk : Nat} {ret : Option FieldType} {rm : Room} {Qc : Option Value → Heap → List Loc → Prop} {ps : List FieldType} {r : Option FieldType} {stk : List Value} (pc' W : Nat) (b : Addr) (argsL : List Value)
    (hown : s.vm.findClass own = some m.cls) (w1 : (Jvm.Cond.methodLink own index y).before a0 Z = true) (w2 : (Jvm.Cond.instanceMethod y).before a0 Z = true) (w5 : (Jvm.Cond.privateMethod y).before a0 Z = true) (w6 : (Jvm.Cond.instantiable y.cls kk).before a0 Z = true) (w3 : (Jvm.Cond.initialized y.cls).before a0 Z = true) (w4 : (Jvm.Cond.code y bytes maxL ret).before a0 Z = true) (hy : y.cls ≠ "java/lang/invoke/MethodHandle" ∧ y.cls ≠ "java/lang/invoke/VarHandle")
    (hpd : parseMethodDescriptor y.desc = some ⟨ps, r⟩) (hlen : argsL.length = ps.length) (eT : T.heap = h) {C : String} (E : Exa Z h b C) (hM : Con l Z y bytes maxL ret [] rm (.ref b :: argsL).toArray h Qc) (hd : decode c.code pc = .ok (.invokevirtual index, 3)) (hsz : Ls.size = c.maxLocals) (hstk : stk = argsL.reverse ++ .ref b :: rest) (hW : (rest.map fun v => v.category).sum = W)
    (hf : rm.frames + 1 ≤ R.frames) (hl : W + (maxL + 11) + rm.locals ≤ R.locals) (hc : cells + rm.cells ≤ R.cells) (hsl : slots + rm.slots ≤ R.slots) (hp : pc + 3 = pc')
    (K : ∀ v T' L, Stand p l e R s m args below meth c T' (locs ++ L) (cells + rm.cells) (slots + rm.slots) → Qc v T'.heap L → Wp p e s below Q kc ks (T'.setTop (mkF m pc' Ls (v.toList ++ rest)))) : Wp p e s below Q kc ks (T.setTop (mkF m pc Ls stk)) := by
  subst hp hstk
  obtain ⟨cq, q, q'⟩ := E.cell
  have hpr := Cond.privateMethod_at (mvP hZ w5 (args := args))
  obtain ⟨c2, k2, i1, i2, i3, i4, -⟩ := Cond.instantiable_spec (mvT (args := args) hZ w6)
  have hsel := selects_self_of_private i1 i2 (Bool.or_eq_false_iff.mp i4).1 hpr (mvT (args := args) hZ w2) hy
  obtain ⟨v, vm₁, ⟨T', L', k', n'⟩, -, X', ⟨Lc, hQ, l1, l2, l3⟩, stp⟩ := X.privateBack hx (y := y) hown (mvT hZ w1) (mvT hZ w2) hsel hpr (mvT hZ w4) hy (backOf (W := W) hM hZ w4 w3 hf hl) (g := mkF m pc Ls (argsL.reverse ++ .ref b :: rest)) rfl hsz (Steps.refl _) (a := b) (by rw [eT]; exact q) q' (argsL := argsL) (rest := rest) (lenOf hpd hlen) rfl (by show 2 * 0 + _ ≤ _; omega) hd (fun _ _ => ⟨rfl, eT, hc, hsl⟩)
  dsimp only [Pt.U, Pt.locs, Pt.cells, Pt.slots] at X' l1 l2 l3 stp hQ
  subst l1 l2 l3
  exact Wp.chain stp (K v T' Lc X' hQ)
/-! arraycopy of primitives -/
theorem own_getD {n : Nat} {f : Nat → Value} {d : Value} {q : Nat} (hq : q < n) : ((List.range n).map f).getD q d = f q := by
  rw [List.getD_eq_getElem?_getD, List.getElem?_map, List.getElem?_range hq]; rfl
theorem own_splice {vd us : List Value} {j k q : Nat} {d : Value} (hu : us.length = k) (hjk : j + k ≤ vd.length) : (vd.take j ++ us ++ vd.drop (j + k)).getD q d = if j ≤ q ∧ q < j + k then us.getD (q - j) d else vd.getD q d := by
  simp only [List.getD_eq_getElem?_getD]
  have l1 : (vd.take j).length = j := by rw [List.length_take]; omega
  by_cases h1 : q < j
  · rw [List.append_assoc, List.getElem?_append_left (by omega), List.getElem?_take_of_lt h1, if_neg (by omega)]
  · by_cases h2 : q < j + k
    · rw [List.getElem?_append_left (by rw [List.length_append]; omega), List.getElem?_append_right (by omega), l1, if_pos ⟨by omega, h2⟩]
    · rw [List.getElem?_append_right (by rw [List.length_append]; omega), List.getElem?_drop, if_neg (by omega), List.length_append, l1, hu]
      congr 2
      omega
theorem IArr.arv (A : IArr Z h a ty n f) (hn : n < 2147483648) (hf : ∀ i, i < n → fits ty (f i) = true) : ∃ k, Arv Z h a k ty (Int32.ofNat n) ((List.range n).map f) .null := by
  obtain ⟨c, A, S, H⟩ := A
  obtain ⟨q1, q2⟩ := nat_of (own_ofNat hn)
  refine ⟨c.cls, c, A, rfl, by rw [q2, S], q1, fun i hi => ?_, fun i hi => ?_⟩
  · rw [own_getD (by omega)]; exact H i (by omega)
  · rw [own_getD (by omega)]; exact hf i (by omega)
theorem W.acopy (X : Stand p l e R s m args below meth c T locs cells slots) (hx : p.tables.exec = Jvm.exec) (hZ : Z.Warmed39 s.vm) {own : String} {index : Nat} {sp dp nn : Int32} {n' : Nat} {g : Nat → Value} {n0 : Nat} (pc' W i j k : Nat) (hown : s.vm.findClass own = some m.cls) (w1 : (Jvm.Cond.methodLink own index Jvm.Stand.acN).before a0 Z = true) (w2 : (Jvm.Cond.native Jvm.Stand.acN).before a0 Z = true) (w3 : (Jvm.Cond.static Jvm.Stand.acN).before a0 Z = true) (w4 : (Jvm.Cond.initialized "java/lang/System").before a0 Z = true) (eT : T.heap = h)
    (A : IArr Z h a ty n f) (B : IArr Z h b ty n' g) (hty : refKind ty = false) (hfa : ∀ i, i < n → fits ty (f i) = true) (hfb : ∀ i, i < n' → fits ty (g i) = true) (hsp : sp.toInt = (i : Int)) (hdp : dp.toInt = (j : Int)) (hnn : nn.toInt = (k : Int)) (h4 : i + k ≤ n) (h5 : j + k ≤ n') (hn : n < 2147483648) (hn' : n' < 2147483648) (N : Fr n0 locs) (ge : n0 ≤ b)
    (hsz : Ls.size = c.maxLocals) (hd : decode c.code pc = .ok (.invokestatic index, 3)) (hf : 1 ≤ R.frames) (hW : (st.map fun v => v.category).sum = W) (hlo : W + (nativeFrameWords "java/lang/System" "arraycopy" 5 + 11) ≤ R.locals) (hp : pc + 3 = pc')
    (K : ∀ T' h' L, Stand p l e R s m args below meth c T' L cells slots → T'.heap = h' → Fr n0 L → Keep h h' [b] → IArr Z h' b ty n' (fun q => if j ≤ q ∧ q < j + k then f (i + (q - j)) else g q) → Wp p e s below Q kc ks (T'.setTop (mkF m pc' Ls st))) : Wp p e s below Q kc ks (T.setTop (mkF m pc Ls (.int nn :: .int dp :: .ref b :: .int sp :: .ref a :: st))) := by
  subst hp
  obtain ⟨ka, VA⟩ := A.arv hn hfa
  obtain ⟨kb, VB⟩ := B.arv hn' hfb
  obtain ⟨s1, s2⟩ := nat_of hsp
  obtain ⟨d1, d2⟩ := nat_of hdp
  obtain ⟨m1, m2⟩ := nat_of hnn
  obtain ⟨-, z2⟩ := nat_of (own_ofNat hn)
  obtain ⟨-, z2'⟩ := nat_of (own_ofNat hn')
  obtain ⟨T', h', L, X', e', N', Kp, V', stp⟩ := cpA X hx hZ hown w1 w2 w3 w4 eT VA VB (Or.inl ⟨rfl, hty⟩) s1 d1 m1 (by rw [s2, m2, z2]; exact h4) (by rw [d2, m2, z2']; exact h5) rfl (by rw [d2, m2]; simpa using h5) N ge (g := mkF m pc Ls (.int nn :: .int dp :: .ref b :: .int sp :: .ref a :: st)) rfl hsz rfl hd hf (W := W) (by show 2 * 0 + _ ≤ _; omega) hlo
  refine Wp.step stp (K T' h' L X' e' N' Kp ?_)
  obtain ⟨c', A', -, S', -, H', -⟩ := V'
  refine ⟨c', A', by rw [S', z2'], fun q hq => ?_⟩
  rw [H' q (by rw [S', z2']; exact hq), d2, m2, s2, own_splice (by simp) (by simpa using h5)]
  dsimp only
  by_cases hh : j ≤ q ∧ q < j + k
  · rw [if_pos hh, if_pos hh, own_getD (by omega), own_getD (by omega)]
  · rw [if_neg hh, if_neg hh, own_getD hq]
def BArr (Z : State) (h : Heap) (a : Addr) (ty : FieldType) (n : Nat) : Prop := ∃ f, IArr Z h a ty n f ∧ ∀ i, i < n → fits ty (f i) = true
theorem BArr.lt (A : BArr Z h a ty n) : a < h.size := by obtain ⟨f, A, -⟩ := A; exact A.lt
theorem BArr.ext (A : BArr Z h a ty n) (E : Ext h h') : BArr Z h' a ty n := by obtain ⟨f, A, r⟩ := A; exact ⟨f, A.ext E, r⟩
theorem BArr.other {sl : Nat} {v : Value} (A : BArr Z h b ty n) (W : Wr h h' a sl v) (q : b ≠ a) : BArr Z h' b ty n := by obtain ⟨f, A, r⟩ := A; exact ⟨f, A.other W q, r⟩
theorem BArr.keep {ws : List Addr} (A : BArr Z h a ty n) (K : Keep h h' ws) (q : a ∉ ws) : BArr Z h' a ty n := by obtain ⟨f, A, r⟩ := A; exact ⟨f, A.keep K q, r⟩
theorem IArr.barr (A : IArr Z h a ty n (fun _ => defaultValue ty)) : BArr Z h a ty n := ⟨_, A, fun i _ => by cases ty <;> rfl⟩
theorem fits_splice {g : Nat → Value} {n' i j k : Nat} (hfa : ∀ i, i < n → fits ty (f i) = true) (hfb : ∀ i, i < n' → fits ty (g i) = true) (h4 : i + k ≤ n) : ∀ q, q < n' → fits ty ((fun q => if j ≤ q ∧ q < j + k then f (i + (q - j)) else g q) q) = true := fun q hq => by
  dsimp only
  split
  · exact hfa _ (by omega)
  · exact hfb _ hq
theorem own_ladd {x y : Int64} (h1 : -9223372036854775808 ≤ x.toInt + y.toInt) (h2 : x.toInt + y.toInt < 9223372036854775808) : (x + y).toInt = x.toInt + y.toInt := by
  have a : ((x + y).toInt - (x.toInt + y.toInt)) % 18446744073709551616 = 0 := by rw [Int64.toInt_add]; exact bm64 _
  have r := rng64 (x + y)
  omega
theorem own_lmul {x y : Int64} (h1 : -9223372036854775808 ≤ x.toInt * y.toInt) (h2 : x.toInt * y.toInt < 9223372036854775808) : (x * y).toInt = x.toInt * y.toInt := by
  have a : ((x * y).toInt - (x.toInt * y.toInt)) % 18446744073709551616 = 0 := by rw [Int64.toInt_mul]; exact bm64 _
  have r := rng64 (x * y)
  omega
theorem W.newarrE (X : Stand p l e R s m args below meth c T locs cells slots) (hx : p.tables.exec = Jvm.exec) (hZ : Z.Warmed39 s.vm) {aty : ArrayType} {z : Int32} (pc' : Nat) (k cap : Nat) (ad : String) (w : (Jvm.Cond.arrayClass (newarray.typeOf aty)).before a0 Z = true) (eT : T.heap = h) (hd : decode c.code pc = .ok (.newarray aty, 2)) (had : "[" ++ (newarray.typeOf aty).toString = ad) (hz : z.toInt = (k : Int)) (hcap : k ≤ cap) (hb : cap * 8 ≤ 536870912) (hc : cells + 1 ≤ R.cells) (hl : slots + cap ≤ R.slots) (hp : pc + 2 = pc')
    (K : ∀ T' h' a, a = h.size → Stand p l e R s m args below meth c T' locs (cells + 1) (slots + cap) → T'.heap = h' → Ext h h' → IArr Z h' a (newarray.typeOf aty) k (fun _ => defaultValue (newarray.typeOf aty)) → Exa Z h' a ad → Wp p e s below Q kc ks (T'.setTop (mkF m pc' Ls (.ref a :: st)))) : Wp p e s below Q kc ks (T.setTop (mkF m pc Ls (.int z :: st))) := by
  subst hp
  obtain ⟨q1, q2⟩ := nat_of hz
  obtain ⟨T', h', cA, X', e', E, A, EA, stp⟩ := newPE X hx hZ w eT (g := mkF m pc Ls (.int z :: st)) rfl hd rfl q1 (cap := cap) (by omega) hb hc hl had
  exact Wp.step stp (K T' h' _ rfl X' e' E (IArr.fresh A q2) EA)
def TakesA (Z : State) (h : Heap) (a : Addr) (C : String) : Prop := ∃ (c : Cell) (t ty : FieldType), Arr Z h a c t ∧ OvrA Z c.cls ty C
theorem TakesA.lt {C : String} (F : TakesA Z h a C) : a < h.size := by obtain ⟨c, t, ty, A, -⟩ := F; exact A.lt
theorem TakesA.ext {C : String} (F : TakesA Z h a C) (E : Ext h h') : TakesA Z h' a C := by obtain ⟨c, t, ty, A, O⟩ := F; exact ⟨c, t, ty, A.ext E, O⟩
theorem TakesA.wr {C : String} {sl : Nat} {v : Value} (F : TakesA Z h a C) (W : Wr h h' b sl v) : TakesA Z h' a C := by
  obtain ⟨c, t, ty, A, O⟩ := F
  by_cases q : a = b
  · subst q; exact ⟨_, t, ty, A.same W, O⟩
  · exact ⟨c, t, ty, A.other W q, O⟩
theorem TakesA.keep {C : String} {ws : List Addr} (F : TakesA Z h a C) (K : Keep h h' ws) (q : a ∉ ws) : TakesA Z h' a C := by obtain ⟨c, t, ty, A, O⟩ := F; exact ⟨c, t, ty, ⟨K.2.1 a c A.1 q, A.2⟩, O⟩
theorem TakesA.sto {C : String} {y : Addr} (F : TakesA Z h a C) (I : Ins Z h y C true) : Sto Z h a (.ref y) := by obtain ⟨c, t, ty, A, O⟩ := F; exact Sto.ofVA A rfl O I
theorem W.newRA (X : Stand p l e R s m args below meth c T locs cells slots) (hx : p.tables.exec = Jvm.exec) (hZ : Z.Warmed39 s.vm) {own : String} {ty : FieldType} {index : Nat} {z : Int32} (pc' : Nat) (k cap : Nat) (C : String) (hown : s.vm.findClass own = some m.cls) (hC : (FieldType.array ty).toString = C) (w1 : (Jvm.Cond.classLink own index C).before a0 Z = true) (w2 : (Jvm.Cond.arrayOver (.array ty)).before a0 Z = true) (eT : T.heap = h) (hd : decode c.code pc = .ok (.anewarray index, 3)) (hz : z.toInt = (k : Int)) (hcap : k ≤ cap) (hb : cap * 8 ≤ 536870912) (hc : cells + 1 ≤ R.cells) (hl : slots + cap ≤ R.slots) (hp : pc + 3 = pc')
    (K : ∀ T' h' a, a = h.size → Stand p l e R s m args below meth c T' locs (cells + 1) (slots + cap) → T'.heap = h' → Ext h h' → IArr Z h' a (.array ty) k (fun _ => defaultValue (.array ty)) → TakesA Z h' a C → Wp p e s below Q kc ks (T'.setTop (mkF m pc' Ls (.ref a :: st)))) : Wp p e s below Q kc ks (T.setTop (mkF m pc Ls (.int z :: st))) := by
  subst hp
  obtain ⟨q1, q2⟩ := nat_of hz
  obtain ⟨T', h', cA, X', e', E, A, -, O, stp⟩ := Jvm.RoadKit.newRA X hx hZ hown hC w1 w2 eT (g := mkF m pc Ls (.int z :: st)) rfl hd rfl q1 (cap := cap) (by omega) hb hc hl rfl
  exact Wp.step stp (K T' h' _ rfl X' e' E (IArr.fresh A q2) ⟨_, _, _, A, O⟩)
end W
end Jvm.OwnW
namespace Jvm.Pilot.@@N@@
open Jvm Jvm.ClassFile Sem Op Lib Jvm.Free Jvm.Stand Jvm.LawKit Jvm.RoadKit Jvm.OwnW Bundle Jvm.Pilot.@@N@@.Jvm.D
theorem pd_0 : parseMethodDescriptor "([I[IIIII)I" = some ⟨[(.array .int), (.array .int), .int, .int, .int, .int], some .int⟩ := by decide +kernel
theorem pd_1 : parseMethodDescriptor "([I[III)I" = some ⟨[(.array .int), (.array .int), .int, .int], some .int⟩ := by decide +kernel
theorem pd_2 : parseMethodDescriptor "([I[II)[I" = some ⟨[(.array .int), (.array .int), .int], some (.array .int)⟩ := by decide +kernel
theorem pd_3 : parseMethodDescriptor "([I[I[III)Z" = some ⟨[(.array .int), (.array .int), (.array .int), .int, .int], some .boolean⟩ := by decide +kernel
theorem own_lt {n m : Nat} (hn : n < 100000) (hm : m < 100000) : Int32.ofNat n < Int32.ofNat m ↔ n < m := by
  rw [Int32.lt_iff_toInt_lt, own_ofNat (by omega), own_ofNat (by omega)]; omega
theorem own_eq {n m : Nat} (hn : n < 100000) (hm : m < 100000) : Int32.ofNat n = Int32.ofNat m ↔ n = m := by
  constructor
  · intro q; have := congrArg Int32.toInt q; rw [own_ofNat (by omega), own_ofNat (by omega)] at this; omega
  · intro q; rw [q]
theorem own_oadd {n m : Nat} (hn : n < 100000) (hm : m < 100000) : Int32.ofNat n + Int32.ofNat m = Int32.ofNat (n + m) := by
  apply Int32.toInt_inj.mp
  rw [own_add, own_ofNat (by omega), own_ofNat (by omega), own_ofNat (by omega)]; omega
  all_goals (rw [own_ofNat (by omega), own_ofNat (by omega)]; omega)
theorem own_o1 {n : Nat} (hn : n < 100000) : Int32.ofNat n + (1 : Int32) = Int32.ofNat (n + 1) := own_oadd (m := 1) hn (by decide)
theorem own_div {x y : Int32} (hx : 0 ≤ x.toInt) (hy : 0 < y.toInt) : ∃ n : Nat, (x / y).toInt = (n : Int) ∧ (n : Int) = x.toInt / y.toInt := by
  have h1 : (x / y).toInt = (x.toInt.tdiv y.toInt).bmod (2 ^ 32) := Int32.toInt_div _ _
  rw [Int.tdiv_eq_ediv_of_nonneg hx] at h1
  have h2 : 0 ≤ x.toInt / y.toInt := Int.ediv_nonneg hx (by omega)
  have h3 : x.toInt / y.toInt ≤ x.toInt := Int.ediv_le_self _ hx
  have r := rng32 x
  have b := bm32 (x.toInt / y.toInt)
  have r1 := Int.bmod_lt (x := x.toInt / y.toInt) (m := 2 ^ 32) (by decide)
  have r2 := Int.le_bmod (x := x.toInt / y.toInt) (m := 2 ^ 32) (by decide)
  exact ⟨(x.toInt / y.toInt).toNat, by omega, by omega⟩
/-- an int[] of small naturals -/
def NAr (Z : State) (h : Heap) (a : Addr) (n : Nat) (f : Nat → Nat) : Prop := IArr Z h a .int n (fun j => .int (Int32.ofNat (f j)))
def updN (f : Nat → Nat) (i x : Nat) : Nat → Nat := fun j => if j = i then x else f j
theorem updN_same (f : Nat → Nat) (i x : Nat) : updN f i x i = x := by simp [updN]
theorem updN_ne {f : Nat → Nat} {i x j : Nat} (q : j ≠ i) : updN f i x j = f j := by simp [updN, q]
theorem updN_lt {f : Nat → Nat} {i x B : Nat} (hf : ∀ j, f j < B) (hx : x < B) : ∀ j, updN f i x j < B := fun j => by
  unfold updN; split
  · exact hx
  · exact hf j
theorem NAr.lt {Z : State} {h : Heap} {a : Addr} {n : Nat} {f : Nat → Nat} (A : NAr Z h a n f) : a < h.size := IArr.lt A
theorem NAr.ext {Z : State} {h h' : Heap} {a : Addr} {n : Nat} {f : Nat → Nat} (A : NAr Z h a n f) (E : Ext h h') : NAr Z h' a n f := IArr.ext A E
theorem NAr.other {Z : State} {h h' : Heap} {a b : Addr} {n sl : Nat} {f : Nat → Nat} {v : Value} (A : NAr Z h b n f) (W : Wr h h' a sl v) (q : b ≠ a) : NAr Z h' b n f := IArr.other A W q
theorem NAr.keep {Z : State} {h h' : Heap} {a : Addr} {n : Nat} {f : Nat → Nat} {ws : List Addr} (A : NAr Z h a n f) (K : Keep h h' ws) (q : a ∉ ws) : NAr Z h' a n f := IArr.keep A K q
theorem own_set {Z : State} {h : Heap} {a : Addr} {n i x : Nat} {f : Nat → Nat} (A : IArr Z h a .int n (upd (fun j => .int (Int32.ofNat (f j))) i (.int (Int32.ofNat x)))) : NAr Z h a n (updN f i x) :=
  IArr.cong A fun j _ => by
    by_cases q : j = i
    · subst q; rw [upd_same, updN_same]
    · rw [upd_ne q, updN_ne q]
theorem own_cg {Z : State} {h : Heap} {a : Addr} {n : Nat} {f g : Nat → Nat} (A : NAr Z h a n f) (q : ∀ j, j < n → g j = f j) : NAr Z h a n g := IArr.cong A fun j hj => by rw [q j hj]
/-! counting -/
def cl (key : Nat → Nat) (v : Nat) : Nat → Nat
  | 0 => 0
  | i + 1 => cl key v i + (if key i < v then 1 else 0)
def ce (key : Nat → Nat) (v : Nat) : Nat → Nat
  | 0 => 0
  | i + 1 => ce key v i + (if key i = v then 1 else 0)
theorem cl_succ (key : Nat → Nat) (v : Nat) : ∀ i, cl key (v + 1) i = cl key v i + ce key v i
  | 0 => rfl
  | i + 1 => by
    unfold cl ce; rw [cl_succ key v i]
    by_cases h1 : key i < v
    · rw [if_pos h1, if_pos (by omega), if_neg (by omega)]; omega
    · by_cases h2 : key i = v
      · rw [if_neg h1, if_pos (by omega), if_pos h2]; omega
      · rw [if_neg h1, if_neg (by omega), if_neg h2]; omega
theorem cl_zero (key : Nat → Nat) : ∀ i, cl key 0 i = 0
  | 0 => rfl
  | i + 1 => by unfold cl; rw [cl_zero key i, if_neg (by omega)]
theorem cl_le (key : Nat → Nat) (v : Nat) : ∀ i, cl key v i ≤ i
  | 0 => Nat.le_refl _
  | i + 1 => by unfold cl; have := cl_le key v i; split <;> omega
theorem ce_le (key : Nat → Nat) (v : Nat) : ∀ i, ce key v i ≤ i
  | 0 => Nat.le_refl _
  | i + 1 => by unfold ce; have := ce_le key v i; split <;> omega
theorem ce_mono (key : Nat → Nat) (v i : Nat) : ∀ d, ce key v i ≤ ce key v (i + d)
  | 0 => Nat.le_refl _
  | d + 1 => by have := ce_mono key v i d; show _ ≤ ce key v (i + d) + _; omega
theorem cl_mono (key : Nat → Nat) (n v : Nat) : ∀ d, cl key v n ≤ cl key (v + d) n
  | 0 => Nat.le_refl _
  | d + 1 => by have := cl_mono key n v d; have := cl_succ key (v + d) n; rw [show v + (d + 1) = v + d + 1 by omega]; omega
def pos (key : Nat → Nat) (n j : Nat) : Nat := cl key (key j) n + ce key (key j) j
theorem ce_step {key : Nat → Nat} {i n : Nat} (h : i < n) : ce key (key i) i + 1 ≤ ce key (key i) n := by
  have h1 := ce_mono key (key i) (i + 1) (n - (i + 1))
  rw [show i + 1 + (n - (i + 1)) = n by omega] at h1
  have h2 : ce key (key i) (i + 1) = ce key (key i) i + 1 := by show ce key (key i) i + _ = _; rw [if_pos rfl]
  omega
theorem pos_lt' {key : Nat → Nat} {n i : Nat} (h : i < n) : pos key n i < cl key (key i + 1) n := by
  have h1 := ce_step (key := key) h
  have h2 := cl_succ key (key i) n
  unfold pos; omega
theorem pos_lt {key : Nat → Nat} {n i : Nat} (h : i < n) : pos key n i < n := by
  have h1 := pos_lt' (key := key) h
  have h2 := cl_le key (key i + 1) n
  omega
theorem pos_ne {key : Nat → Nat} {n i j : Nat} (hj : j < i) (hi : i < n) : pos key n j ≠ pos key n i := by
  rcases Nat.lt_trichotomy (key j) (key i) with q | q | q
  · have h1 := pos_lt' (key := key) (show j < n by omega)
    have h2 := cl_mono key n (key j + 1) (key i - (key j + 1))
    rw [show key j + 1 + (key i - (key j + 1)) = key i by omega] at h2
    unfold pos at *; omega
  · have h1 := ce_step (key := key) hj
    unfold pos; rw [q] at h1 ⊢; omega
  · have h1 := pos_lt' (key := key) hi
    have h2 := cl_mono key n (key i + 1) (key j - (key i + 1))
    rw [show key i + 1 + (key j - (key i + 1)) = key j by omega] at h2
    unfold pos at *; omega
def own_bf (key : Nat → Nat) (n j k : Nat) : Nat := if k < n then (if key k < key j then 1 else if key k = key j then (if k < j then 1 else 0) else 0) else 0
theorem own_dest (key : Nat → Nat) {n j : Nat} (hn : n ≤ 4) (hj : j < n) : own_bf key n j 0 + own_bf key n j 1 + own_bf key n j 2 + own_bf key n j 3 = pos key n j := by
  have c : n = 1 ∨ n = 2 ∨ n = 3 ∨ n = 4 := by omega
  have d : j = 0 ∨ j = 1 ∨ j = 2 ∨ j = 3 := by omega
  rcases c with rfl | rfl | rfl | rfl <;> rcases d with rfl | rfl | rfl | rfl <;> first | omega | (simp only [own_bf, pos, cl, ce, Nat.lt_irrefl, if_false, if_true, Nat.zero_lt_succ, show (1 : Nat) < 2 from by decide, show (1 : Nat) < 3 from by decide, show (1 : Nat) < 4 from by decide, show (2 : Nat) < 3 from by decide, show (2 : Nat) < 4 from by decide, show (3 : Nat) < 4 from by decide, show ¬ (2 : Nat) < 1 from by decide, show ¬ (3 : Nat) < 1 from by decide, show ¬ (3 : Nat) < 2 from by decide, show ¬ (1 : Nat) < 0 from by decide, show ¬ (2 : Nat) < 0 from by decide, show ¬ (3 : Nat) < 0 from by decide]; done) | (simp only [own_bf, pos, cl, ce, Nat.lt_irrefl, if_false, if_true, Nat.zero_lt_succ, show (1 : Nat) < 2 from by decide, show (1 : Nat) < 3 from by decide, show (1 : Nat) < 4 from by decide, show (2 : Nat) < 3 from by decide, show (2 : Nat) < 4 from by decide, show (3 : Nat) < 4 from by decide, show ¬ (2 : Nat) < 1 from by decide, show ¬ (3 : Nat) < 1 from by decide, show ¬ (3 : Nat) < 2 from by decide, show ¬ (1 : Nat) < 0 from by decide, show ¬ (2 : Nat) < 0 from by decide, show ¬ (3 : Nat) < 0 from by decide]; (repeat' split) <;> omega)
theorem own_dupX2 {tb : Tables} [Ours tb] {e : Env} {below : List Frame} {T target : State} {m : MethodId} {c : Code} {g : JFrame} (h : At T m c below) (hx : tb.exec = Jvm.exec) (hg : g.method = m) {x y z : Value} {rest : List Value} (hd : decode c.code g.pc = .ok (.dup_x2, 1)) (hs : g.stack = x :: y :: z :: rest) (hc : x.category = 1) (hc' : y.category = 1) (hc'' : z.category = 1)
    (hr : Steps tb e below (T.setTop { g with pc := g.pc + 1, stack := x :: y :: z :: x :: rest }) target) : Steps tb e below (T.setTop g) target := by
  subst hg
  jvm_step h [h.top, hx, hd, dup_x2.wp_sem, hs, hc, hc', hc'']
  exact hr
theorem own_WdupX2 {p : Program} {l : Launch} {e : Env} {R : Room} {s : State} {m : MethodId} {args : Array Value} {below : List Frame} {meth : Method} {c : Code} {T : State} {locs : List Loc} {cells slots : Nat} {Q : Option Value → Heap → List Loc → Prop} {kc ks : Nat} {pc : Nat} {Ls : Array Slot} {st : List Value} (X : Stand p l e R s m args below meth c T locs cells slots) (hx : p.tables.exec = Jvm.exec) {x y z : Value} (pc' : Nat) (hd : decode c.code pc = .ok (.dup_x2, 1)) (hc : x.category = 1) (hc' : y.category = 1) (hc'' : z.category = 1) (hp : pc + 1 = pc') (K : Wp p e s below Q kc ks (T.setTop (mkF m pc' Ls (x :: y :: z :: x :: st)))) : Wp p e s below Q kc ks (T.setTop (mkF m pc Ls (x :: y :: z :: st))) := by
  subst hp; exact Wp.step (fun _ k => own_dupX2 X.here hx rfl hd rfl hc hc' hc'' k) K
theorem d4_0 : decode method_5_code 0 = .ok (.iload 4, 2) := by decide +kernel
theorem d4_2 : decode method_5_code 2 = .ok (.iload_n 2, 1) := by decide +kernel
theorem d4_3 : decode method_5_code 3 = .ok (.if_icmp .lt 5, 3) := by decide +kernel
theorem d4_6 : decode method_5_code 6 = .ok (.iconst 0, 1) := by decide +kernel
theorem d4_7 : decode method_5_code 7 = .ok (.ireturn, 1) := by decide +kernel
theorem d4_8 : decode method_5_code 8 = .ok (.aload_n 1, 1) := by decide +kernel
theorem d4_9 : decode method_5_code 9 = .ok (.aload_n 0, 1) := by decide +kernel
theorem d4_10 : decode method_5_code 10 = .ok (.iload 4, 2) := by decide +kernel
theorem d4_12 : decode method_5_code 12 = .ok (.iaload, 1) := by decide +kernel
theorem d4_13 : decode method_5_code 13 = .ok (.iaload, 1) := by decide +kernel
theorem d4_14 : decode method_5_code 14 = .ok (.istore 6, 2) := by decide +kernel
theorem d4_16 : decode method_5_code 16 = .ok (.iload 6, 2) := by decide +kernel
theorem d4_18 : decode method_5_code 18 = .ok (.iload 5, 2) := by decide +kernel
theorem d4_20 : decode method_5_code 20 = .ok (.if_icmp .ge 5, 3) := by decide +kernel
theorem d4_23 : decode method_5_code 23 = .ok (.iconst 1, 1) := by decide +kernel
theorem d4_24 : decode method_5_code 24 = .ok (.ireturn, 1) := by decide +kernel
theorem d4_25 : decode method_5_code 25 = .ok (.iload 6, 2) := by decide +kernel
theorem d4_27 : decode method_5_code 27 = .ok (.iload 5, 2) := by decide +kernel
theorem d4_29 : decode method_5_code 29 = .ok (.if_icmp .ne 11, 3) := by decide +kernel
theorem d4_32 : decode method_5_code 32 = .ok (.iload 4, 2) := by decide +kernel
theorem d4_34 : decode method_5_code 34 = .ok (.iload_n 3, 1) := by decide +kernel
theorem d4_35 : decode method_5_code 35 = .ok (.if_icmp .ge 5, 3) := by decide +kernel
theorem d4_38 : decode method_5_code 38 = .ok (.iconst 1, 1) := by decide +kernel
theorem d4_39 : decode method_5_code 39 = .ok (.ireturn, 1) := by decide +kernel
theorem d4_40 : decode method_5_code 40 = .ok (.iconst 0, 1) := by decide +kernel
theorem d4_41 : decode method_5_code 41 = .ok (.ireturn, 1) := by decide +kernel
theorem pn_4 : plainName "com/example/margrave/margrave/engine/CountingSortByRankPinLaw" = true := by first | (simp [plainName, overriddenIn]; done) | decide +kernel
theorem ef_rm4 (m : MethodId) (ao : Addr) (ar : Addr) (n : Nat) (j : Nat) (k : Nat) (o : Nat → Nat) (rk : Nat → Nat) : entryFrame m #[(.ref ao), (.ref ar), (.int (Int32.ofNat n)), (.int (Int32.ofNat j)), (.int (Int32.ofNat k)), (.int (Int32.ofNat (rk (o j))))] 7 = mkF m 0 #[.val (.ref ao), .val (.ref ar), .val (.int (Int32.ofNat n)), .val (.int (Int32.ofNat j)), .val (.int (Int32.ofNat k)), .val (.int (Int32.ofNat (rk (o j)))), .unset] [] := by first | (simp [entryFrame, mkF, argsToLocals, Value.category]; done) | rfl
set_option maxRecDepth 65536 in
set_option maxHeartbeats 40000000 in
theorem rm4 (l : Launch) (Z : State) (a0 : Array Value) (hw : ∀ d ∈ tables_1, d.before a0 Z = true) (ao ar : Addr) (n j k : Nat) (o rk : Nat → Nat) (h0 : Heap) (O : NAr Z h0 ao n o) (K : NAr Z h0 ar 4 rk) (ho : ∀ j, o j < 4) (hr : ∀ j, rk j < 8) (hn : n ≤ 4) (hj : j < n) (hk : k < 4) :
    Con l Z (⟨"com/example/margrave/margrave/engine/CountingSortByRankPinLaw", "before", "([I[IIIII)I"⟩ : MethodName) method_5_code 7 (some .int) [] ({ frames := 0, cells := 0, slots := 0, locals := 0 } : Room) #[(.ref ao), (.ref ar), (.int (Int32.ofNat n)), (.int (Int32.ofNat j)), (.int (Int32.ofNat k)), (.int (Int32.ofNat (rk (o j))))] h0 (fun v h L => v = some (.int (Int32.ofNat (own_bf (fun i => rk (o i)) n j k))) ∧ h = h0 ∧ L = []) := by
  refine Con.of (plainFor_of_name pn_4) ?_
  intro p e s m below meth c s₁ hx hby hml hown hnm hret hlk hZ X0 e0
  refine Wp.enter (ef_rm4 m ao ar n j k o rk) ?_
  have hrj := hr (o j)
  have hrk := hr (o k)
  have hok := ho k
  refine W.iload X0 hx 2 (hb hby d4_0) rfl rfl ?_
  refine W.iloadN X0 hx 3 (hb hby d4_2) rfl rfl ?_
  refine W.icmpLt X0 hx 8 6 (hb hby d4_3) (by decide) (by decide) rfl (fun q => ?_) (fun q => ?_)
  · skip
    rw [own_lt (by omega) (by omega)] at q
    refine W.aloadN X0 hx 9 (hb hby d4_8) rfl rfl rfl ?_
    refine W.aloadN X0 hx 10 (hb hby d4_9) rfl rfl rfl ?_
    refine W.iload X0 hx 12 (hb hby d4_10) rfl rfl ?_
    refine W.iaload X0 hx hZ 13 k (.int (Int32.ofNat (o k))) e0 O (own_ofNat (by omega)) q rfl (hb hby d4_12) rfl ?_
    refine W.iaload X0 hx hZ 14 (o k) (.int (Int32.ofNat (rk (o k)))) e0 K (own_ofNat (by omega)) hok rfl (hb hby d4_13) rfl ?_
    refine W.istore X0 hx 16 #[.val (.ref ao), .val (.ref ar), .val (.int (Int32.ofNat n)), .val (.int (Int32.ofNat j)), .val (.int (Int32.ofNat k)), .val (.int (Int32.ofNat (rk (o j)))), .val (.int (Int32.ofNat (rk (o k))))] (hb hby d4_14) rfl rfl ?_
    refine W.iload X0 hx 18 (hb hby d4_16) rfl rfl ?_
    refine W.iload X0 hx 20 (hb hby d4_18) rfl rfl ?_
    refine W.icmpGe X0 hx 25 23 (hb hby d4_20) (by decide) (by decide) rfl (fun q2 => ?_) (fun q2 => ?_)
    · skip
      rw [own_lt (by omega) (by omega)] at q2
      refine W.iload X0 hx 27 (hb hby d4_25) rfl rfl ?_
      refine W.iload X0 hx 29 (hb hby d4_27) rfl rfl ?_
      refine W.icmpNe X0 hx 40 32 (hb hby d4_29) (by decide) (by decide) rfl (fun q3 => ?_) (fun q3 => ?_)
      · skip
        rw [own_eq (by omega) (by omega)] at q3
        refine W.iconst X0 hx 41 (0 : Int32) (hb hby d4_40) rfl rfl ?_
        refine W.iret X0 hx hlk hret (hb hby d4_41) (by decide) (by decide) ?_
        exact ⟨by simp only [own_bf, if_pos q, if_neg q2, if_neg q3]; rfl, e0, rfl⟩
      · skip
        rw [own_eq (by omega) (by omega)] at q3
        refine W.iload X0 hx 34 (hb hby d4_32) rfl rfl ?_
        refine W.iloadN X0 hx 35 (hb hby d4_34) rfl rfl ?_
        refine W.icmpGe X0 hx 40 38 (hb hby d4_35) (by decide) (by decide) rfl (fun q4 => ?_) (fun q4 => ?_)
        · skip
          rw [own_lt (by omega) (by omega)] at q4
          refine W.iconst X0 hx 41 (0 : Int32) (hb hby d4_40) rfl rfl ?_
          refine W.iret X0 hx hlk hret (hb hby d4_41) (by decide) (by decide) ?_
          exact ⟨by simp only [own_bf, if_pos q, if_neg q2, if_pos q3, if_neg q4]; rfl, e0, rfl⟩
        · skip
          rw [own_lt (by omega) (by omega)] at q4
          refine W.iconst X0 hx 39 (1 : Int32) (hb hby d4_38) rfl rfl ?_
          refine W.iret X0 hx hlk hret (hb hby d4_39) (by decide) (by decide) ?_
          exact ⟨by simp only [own_bf, if_pos q, if_neg q2, if_pos q3, if_pos q4]; rfl, e0, rfl⟩
    · skip
      rw [own_lt (by omega) (by omega)] at q2
      refine W.iconst X0 hx 24 (1 : Int32) (hb hby d4_23) rfl rfl ?_
      refine W.iret X0 hx hlk hret (hb hby d4_24) (by decide) (by decide) ?_
      exact ⟨by simp only [own_bf, if_pos q, if_pos q2]; rfl, e0, rfl⟩
  · skip
    rw [own_lt (by omega) (by omega)] at q
    refine W.iconst X0 hx 7 (0 : Int32) (hb hby d4_6) rfl rfl ?_
    refine W.iret X0 hx hlk hret (hb hby d4_7) (by decide) (by decide) ?_
    exact ⟨by simp only [own_bf, if_neg q]; rfl, e0, rfl⟩
theorem d3_0 : decode method_4_code 0 = .ok (.aload_n 1, 1) := by decide +kernel
theorem d3_1 : decode method_4_code 1 = .ok (.aload_n 0, 1) := by decide +kernel
theorem d3_2 : decode method_4_code 2 = .ok (.iload_n 3, 1) := by decide +kernel
theorem d3_3 : decode method_4_code 3 = .ok (.iaload, 1) := by decide +kernel
theorem d3_4 : decode method_4_code 4 = .ok (.iaload, 1) := by decide +kernel
theorem d3_5 : decode method_4_code 5 = .ok (.istore 4, 2) := by decide +kernel
theorem d3_7 : decode method_4_code 7 = .ok (.aload_n 0, 1) := by decide +kernel
theorem d3_8 : decode method_4_code 8 = .ok (.aload_n 1, 1) := by decide +kernel
theorem d3_9 : decode method_4_code 9 = .ok (.iload_n 2, 1) := by decide +kernel
theorem d3_10 : decode method_4_code 10 = .ok (.iload_n 3, 1) := by decide +kernel
theorem d3_11 : decode method_4_code 11 = .ok (.iconst 0, 1) := by decide +kernel
theorem d3_12 : decode method_4_code 12 = .ok (.iload 4, 2) := by decide +kernel
theorem d3_14 : decode method_4_code 14 = .ok (.invokestatic 24, 3) := by decide +kernel
theorem d3_17 : decode method_4_code 17 = .ok (.aload_n 0, 1) := by decide +kernel
theorem d3_18 : decode method_4_code 18 = .ok (.aload_n 1, 1) := by decide +kernel
theorem d3_19 : decode method_4_code 19 = .ok (.iload_n 2, 1) := by decide +kernel
theorem d3_20 : decode method_4_code 20 = .ok (.iload_n 3, 1) := by decide +kernel
theorem d3_21 : decode method_4_code 21 = .ok (.iconst 1, 1) := by decide +kernel
theorem d3_22 : decode method_4_code 22 = .ok (.iload 4, 2) := by decide +kernel
theorem d3_24 : decode method_4_code 24 = .ok (.invokestatic 24, 3) := by decide +kernel
theorem d3_27 : decode method_4_code 27 = .ok (.iadd, 1) := by decide +kernel
theorem d3_28 : decode method_4_code 28 = .ok (.aload_n 0, 1) := by decide +kernel
theorem d3_29 : decode method_4_code 29 = .ok (.aload_n 1, 1) := by decide +kernel
theorem d3_30 : decode method_4_code 30 = .ok (.iload_n 2, 1) := by decide +kernel
theorem d3_31 : decode method_4_code 31 = .ok (.iload_n 3, 1) := by decide +kernel
theorem d3_32 : decode method_4_code 32 = .ok (.iconst 2, 1) := by decide +kernel
theorem d3_33 : decode method_4_code 33 = .ok (.iload 4, 2) := by decide +kernel
theorem d3_35 : decode method_4_code 35 = .ok (.invokestatic 24, 3) := by decide +kernel
theorem d3_38 : decode method_4_code 38 = .ok (.iadd, 1) := by decide +kernel
theorem d3_39 : decode method_4_code 39 = .ok (.aload_n 0, 1) := by decide +kernel
theorem d3_40 : decode method_4_code 40 = .ok (.aload_n 1, 1) := by decide +kernel
theorem d3_41 : decode method_4_code 41 = .ok (.iload_n 2, 1) := by decide +kernel
theorem d3_42 : decode method_4_code 42 = .ok (.iload_n 3, 1) := by decide +kernel
theorem d3_43 : decode method_4_code 43 = .ok (.iconst 3, 1) := by decide +kernel
theorem d3_44 : decode method_4_code 44 = .ok (.iload 4, 2) := by decide +kernel
theorem d3_46 : decode method_4_code 46 = .ok (.invokestatic 24, 3) := by decide +kernel
theorem d3_49 : decode method_4_code 49 = .ok (.iadd, 1) := by decide +kernel
theorem d3_50 : decode method_4_code 50 = .ok (.ireturn, 1) := by decide +kernel
theorem pn_3 : plainName "com/example/margrave/margrave/engine/CountingSortByRankPinLaw" = true := by first | (simp [plainName, overriddenIn]; done) | decide +kernel
theorem ef_rm3 (m : MethodId) (ao : Addr) (ar : Addr) (n : Nat) (j : Nat) : entryFrame m #[(.ref ao), (.ref ar), (.int (Int32.ofNat n)), (.int (Int32.ofNat j))] 5 = mkF m 0 #[.val (.ref ao), .val (.ref ar), .val (.int (Int32.ofNat n)), .val (.int (Int32.ofNat j)), .unset] [] := by first | (simp [entryFrame, mkF, argsToLocals, Value.category]; done) | rfl
set_option maxRecDepth 65536 in
set_option maxHeartbeats 40000000 in
theorem rm3 (l : Launch) (Z : State) (a0 : Array Value) (hw : ∀ d ∈ tables_1, d.before a0 Z = true) (ao ar : Addr) (n j : Nat) (o rk : Nat → Nat) (h0 : Heap) (O : NAr Z h0 ao n o) (K : NAr Z h0 ar 4 rk) (ho : ∀ j, o j < 4) (hr : ∀ j, rk j < 8) (hn : n ≤ 4) (hj : j < n) :
    Con l Z (⟨"com/example/margrave/margrave/engine/CountingSortByRankPinLaw", "dest", "([I[III)I"⟩ : MethodName) method_4_code 5 (some .int) [] ({ frames := 1, cells := 0, slots := 0, locals := 30 } : Room) #[(.ref ao), (.ref ar), (.int (Int32.ofNat n)), (.int (Int32.ofNat j))] h0 (fun v h L => v = some (.int (Int32.ofNat (pos (fun i => rk (o i)) n j))) ∧ h = h0 ∧ L = []) := by
  refine Con.of (plainFor_of_name pn_3) ?_
  intro p e s m below meth c s₁ hx hby hml hown hnm hret hlk hZ X0 e0
  refine Wp.enter (ef_rm3 m ao ar n j) ?_
  have hoj := ho j
  have hb1 : ∀ k, own_bf (fun i => rk (o i)) n j k ≤ 1 := fun k => by unfold own_bf; (repeat' split) <;> omega
  refine W.aloadN X0 hx 1 (hb hby d3_0) rfl rfl rfl ?_
  refine W.aloadN X0 hx 2 (hb hby d3_1) rfl rfl rfl ?_
  refine W.iloadN X0 hx 3 (hb hby d3_2) rfl rfl ?_
  refine W.iaload X0 hx hZ 4 j (.int (Int32.ofNat (o j))) e0 O (own_ofNat (by omega)) hj rfl (hb hby d3_3) rfl ?_
  refine W.iaload X0 hx hZ 5 (o j) (.int (Int32.ofNat (rk (o j)))) e0 K (own_ofNat (by omega)) hoj rfl (hb hby d3_4) rfl ?_
  refine W.istore X0 hx 7 #[.val (.ref ao), .val (.ref ar), .val (.int (Int32.ofNat n)), .val (.int (Int32.ofNat j)), .val (.int (Int32.ofNat (rk (o j))))] (hb hby d3_5) rfl rfl ?_
  refine W.aloadN X0 hx 8 (hb hby d3_7) rfl rfl rfl ?_
  refine W.aloadN X0 hx 9 (hb hby d3_8) rfl rfl rfl ?_
  refine W.iloadN X0 hx 10 (hb hby d3_9) rfl rfl ?_
  refine W.iloadN X0 hx 11 (hb hby d3_10) rfl rfl ?_
  refine W.iconst X0 hx 12 (0 : Int32) (hb hby d3_11) rfl rfl ?_
  refine W.iload X0 hx 14 (hb hby d3_12) rfl rfl ?_
  have b0 := hb1 0
  have b1 := hb1 1
  have b2 := hb1 2
  have b3 := hb1 3
  refine W.callS X0 hx hZ 17 0 [(.ref ao), (.ref ar), (.int (Int32.ofNat n)), (.int (Int32.ofNat j)), (.int (Int32.ofNat 0)), (.int (Int32.ofNat (rk (o j))))] hown (hw _ (List.mem_of_getElem? (i := 13) rfl)) (hw _ (List.mem_of_getElem? (i := 14) rfl)) (hw _ (List.mem_of_getElem? (i := 8) rfl)) (hw _ (List.mem_of_getElem? (i := 15) rfl)) (by decide) pd_0 rfl e0 (rm4 l Z a0 hw ao ar n j 0 o rk h0 O K ho hr hn hj (by decide)) (hb hby d3_14) (by rw [hml]; rfl) rfl rfl (by decide) (by decide) (by decide) (by decide) rfl ?_
  rintro v1 T1 L1 X1 ⟨rfl, e1, rfl⟩
  refine W.aloadN X1 hx 18 (hb hby d3_17) rfl rfl rfl ?_
  refine W.aloadN X1 hx 19 (hb hby d3_18) rfl rfl rfl ?_
  refine W.iloadN X1 hx 20 (hb hby d3_19) rfl rfl ?_
  refine W.iloadN X1 hx 21 (hb hby d3_20) rfl rfl ?_
  refine W.iconst X1 hx 22 (1 : Int32) (hb hby d3_21) rfl rfl ?_
  refine W.iload X1 hx 24 (hb hby d3_22) rfl rfl ?_
  refine W.callS X1 hx hZ 27 1 [(.ref ao), (.ref ar), (.int (Int32.ofNat n)), (.int (Int32.ofNat j)), (.int (Int32.ofNat 1)), (.int (Int32.ofNat (rk (o j))))] hown (hw _ (List.mem_of_getElem? (i := 13) rfl)) (hw _ (List.mem_of_getElem? (i := 14) rfl)) (hw _ (List.mem_of_getElem? (i := 8) rfl)) (hw _ (List.mem_of_getElem? (i := 15) rfl)) (by decide) pd_0 rfl e1 (rm4 l Z a0 hw ao ar n j 1 o rk h0 O K ho hr hn hj (by decide)) (hb hby d3_24) (by rw [hml]; rfl) rfl rfl (by decide) (by decide) (by decide) (by decide) rfl ?_
  rintro v2 T2 L2 X2 ⟨rfl, e2, rfl⟩
  refine W.iadd X2 hx 28 (hb hby d3_27) rfl ?_
  rw [own_oadd (by omega) (by omega)]
  refine W.aloadN X2 hx 29 (hb hby d3_28) rfl rfl rfl ?_
  refine W.aloadN X2 hx 30 (hb hby d3_29) rfl rfl rfl ?_
  refine W.iloadN X2 hx 31 (hb hby d3_30) rfl rfl ?_
  refine W.iloadN X2 hx 32 (hb hby d3_31) rfl rfl ?_
  refine W.iconst X2 hx 33 (2 : Int32) (hb hby d3_32) rfl rfl ?_
  refine W.iload X2 hx 35 (hb hby d3_33) rfl rfl ?_
  refine W.callS X2 hx hZ 38 1 [(.ref ao), (.ref ar), (.int (Int32.ofNat n)), (.int (Int32.ofNat j)), (.int (Int32.ofNat 2)), (.int (Int32.ofNat (rk (o j))))] hown (hw _ (List.mem_of_getElem? (i := 13) rfl)) (hw _ (List.mem_of_getElem? (i := 14) rfl)) (hw _ (List.mem_of_getElem? (i := 8) rfl)) (hw _ (List.mem_of_getElem? (i := 15) rfl)) (by decide) pd_0 rfl e2 (rm4 l Z a0 hw ao ar n j 2 o rk h0 O K ho hr hn hj (by decide)) (hb hby d3_35) (by rw [hml]; rfl) rfl rfl (by decide) (by decide) (by decide) (by decide) rfl ?_
  rintro v3 T3 L3 X3 ⟨rfl, e3, rfl⟩
  refine W.iadd X3 hx 39 (hb hby d3_38) rfl ?_
  rw [own_oadd (by omega) (by omega)]
  refine W.aloadN X3 hx 40 (hb hby d3_39) rfl rfl rfl ?_
  refine W.aloadN X3 hx 41 (hb hby d3_40) rfl rfl rfl ?_
  refine W.iloadN X3 hx 42 (hb hby d3_41) rfl rfl ?_
  refine W.iloadN X3 hx 43 (hb hby d3_42) rfl rfl ?_
  refine W.iconst X3 hx 44 (3 : Int32) (hb hby d3_43) rfl rfl ?_
  refine W.iload X3 hx 46 (hb hby d3_44) rfl rfl ?_
  refine W.callS X3 hx hZ 49 1 [(.ref ao), (.ref ar), (.int (Int32.ofNat n)), (.int (Int32.ofNat j)), (.int (Int32.ofNat 3)), (.int (Int32.ofNat (rk (o j))))] hown (hw _ (List.mem_of_getElem? (i := 13) rfl)) (hw _ (List.mem_of_getElem? (i := 14) rfl)) (hw _ (List.mem_of_getElem? (i := 8) rfl)) (hw _ (List.mem_of_getElem? (i := 15) rfl)) (by decide) pd_0 rfl e3 (rm4 l Z a0 hw ao ar n j 3 o rk h0 O K ho hr hn hj (by decide)) (hb hby d3_46) (by rw [hml]; rfl) rfl rfl (by decide) (by decide) (by decide) (by decide) rfl ?_
  rintro v4 T4 L4 X4 ⟨rfl, e4, rfl⟩
  refine W.iadd X4 hx 50 (hb hby d3_49) rfl ?_
  rw [own_oadd (by omega) (by omega)]
  refine W.iret X4 hx hlk hret (hb hby d3_50) (by decide) (by decide) ?_
  exact ⟨by rw [← own_dest (fun i => rk (o i)) hn hj], e4, rfl⟩
theorem d2_0 : decode method_3_code 0 = .ok (.iload 4, 2) := by decide +kernel
theorem d2_2 : decode method_3_code 2 = .ok (.iload_n 3, 1) := by decide +kernel
theorem d2_3 : decode method_3_code 3 = .ok (.if_icmp .lt 5, 3) := by decide +kernel
theorem d2_6 : decode method_3_code 6 = .ok (.iconst 1, 1) := by decide +kernel
theorem d2_7 : decode method_3_code 7 = .ok (.ireturn, 1) := by decide +kernel
theorem d2_8 : decode method_3_code 8 = .ok (.aload_n 0, 1) := by decide +kernel
theorem d2_9 : decode method_3_code 9 = .ok (.aload_n 1, 1) := by decide +kernel
theorem d2_10 : decode method_3_code 10 = .ok (.aload_n 2, 1) := by decide +kernel
theorem d2_11 : decode method_3_code 11 = .ok (.iload_n 3, 1) := by decide +kernel
theorem d2_12 : decode method_3_code 12 = .ok (.iload 4, 2) := by decide +kernel
theorem d2_14 : decode method_3_code 14 = .ok (.invokestatic 20, 3) := by decide +kernel
theorem d2_17 : decode method_3_code 17 = .ok (.iaload, 1) := by decide +kernel
theorem d2_18 : decode method_3_code 18 = .ok (.aload_n 1, 1) := by decide +kernel
theorem d2_19 : decode method_3_code 19 = .ok (.iload 4, 2) := by decide +kernel
theorem d2_21 : decode method_3_code 21 = .ok (.iaload, 1) := by decide +kernel
theorem d2_22 : decode method_3_code 22 = .ok (.if_icmp .ne 7, 3) := by decide +kernel
theorem d2_25 : decode method_3_code 25 = .ok (.iconst 1, 1) := by decide +kernel
theorem d2_26 : decode method_3_code 26 = .ok (.goto 4, 3) := by decide +kernel
theorem d2_29 : decode method_3_code 29 = .ok (.iconst 0, 1) := by decide +kernel
theorem d2_30 : decode method_3_code 30 = .ok (.ireturn, 1) := by decide +kernel
theorem pn_2 : plainName "com/example/margrave/margrave/engine/CountingSortByRankPinLaw" = true := by first | (simp [plainName, overriddenIn]; done) | decide +kernel
theorem ef_rm2 (m : MethodId) (at1 : Addr) (ao : Addr) (ar : Addr) (n : Nat) (j : Nat) : entryFrame m #[(.ref at1), (.ref ao), (.ref ar), (.int (Int32.ofNat n)), (.int (Int32.ofNat j))] 5 = mkF m 0 #[.val (.ref at1), .val (.ref ao), .val (.ref ar), .val (.int (Int32.ofNat n)), .val (.int (Int32.ofNat j))] [] := by first | (simp [entryFrame, mkF, argsToLocals, Value.category]; done) | rfl
set_option maxRecDepth 65536 in
set_option maxHeartbeats 40000000 in
theorem rm2 (l : Launch) (Z : State) (a0 : Array Value) (hw : ∀ d ∈ tables_1, d.before a0 Z = true) (at1 ao ar : Addr) (n j : Nat) (o rk G : Nat → Nat) (h0 : Heap) (O : NAr Z h0 ao n o) (K : NAr Z h0 ar 4 rk) (ho : ∀ j, o j < 4) (hr : ∀ j, rk j < 8) (hn : n ≤ 4) (S : NAr Z h0 at1 n G) (hG : ∀ j, j < n → G (pos (fun i => rk (o i)) n j) = o j) (hj4 : j < 4) :
    Con l Z (⟨"com/example/margrave/margrave/engine/CountingSortByRankPinLaw", "placed", "([I[I[III)Z"⟩ : MethodName) method_3_code 5 (some .boolean) [] ({ frames := 2, cells := 0, slots := 0, locals := 60 } : Room) #[(.ref at1), (.ref ao), (.ref ar), (.int (Int32.ofNat n)), (.int (Int32.ofNat j))] h0 (fun v h L => v = some (.int 1) ∧ h = h0 ∧ L = []) := by
  refine Con.of (plainFor_of_name pn_2) ?_
  intro p e s m below meth c s₁ hx hby hml hown hnm hret hlk hZ X0 e0
  refine Wp.enter (ef_rm2 m at1 ao ar n j) ?_
  refine W.iload X0 hx 2 (hb hby d2_0) rfl rfl ?_
  refine W.iloadN X0 hx 3 (hb hby d2_2) rfl rfl ?_
  refine W.icmpLt X0 hx 8 6 (hb hby d2_3) (by decide) (by decide) rfl (fun q => ?_) (fun q => ?_)
  · skip
    rw [own_lt (by omega) (by omega)] at q
    have hp := pos_lt (key := fun i => rk (o i)) q
    have hoj := ho j
    refine W.aloadN X0 hx 9 (hb hby d2_8) rfl rfl rfl ?_
    refine W.aloadN X0 hx 10 (hb hby d2_9) rfl rfl rfl ?_
    refine W.aloadN X0 hx 11 (hb hby d2_10) rfl rfl rfl ?_
    refine W.iloadN X0 hx 12 (hb hby d2_11) rfl rfl ?_
    refine W.iload X0 hx 14 (hb hby d2_12) rfl rfl ?_
    refine W.callS X0 hx hZ 17 1 [(.ref ao), (.ref ar), (.int (Int32.ofNat n)), (.int (Int32.ofNat j))] hown (hw _ (List.mem_of_getElem? (i := 10) rfl)) (hw _ (List.mem_of_getElem? (i := 11) rfl)) (hw _ (List.mem_of_getElem? (i := 8) rfl)) (hw _ (List.mem_of_getElem? (i := 12) rfl)) (by decide) pd_1 rfl e0 (rm3 l Z a0 hw ao ar n j o rk h0 O K ho hr hn q) (hb hby d2_14) (by rw [hml]; rfl) rfl rfl (by decide) (by decide) (by decide) (by decide) rfl ?_
    rintro v1 T1 L1 X1 ⟨rfl, e1, rfl⟩
    refine W.iaload X1 hx hZ 18 (pos (fun i => rk (o i)) n j) (.int (Int32.ofNat (o j))) e1 S (own_ofNat (by omega)) hp (congrArg (fun z => Value.int (Int32.ofNat z)) (hG j q)) (hb hby d2_17) rfl ?_
    refine W.aloadN X1 hx 19 (hb hby d2_18) rfl rfl rfl ?_
    refine W.iload X1 hx 21 (hb hby d2_19) rfl rfl ?_
    refine W.iaload X1 hx hZ 22 j (.int (Int32.ofNat (o j))) e1 O (own_ofNat (by omega)) q rfl (hb hby d2_21) rfl ?_
    refine W.icmpNe X1 hx 29 25 (hb hby d2_22) (by decide) (by decide) rfl (fun q2 => ?_) (fun q2 => ?_)
    · exact absurd rfl q2
    · skip
      refine W.iconst X1 hx 26 (1 : Int32) (hb hby d2_25) rfl rfl ?_
      refine W.goto X1 hx 30 (hb hby d2_26) (by decide) (by decide) ?_
      refine W.nret X1 hx hlk (t := .boolean) hret (by simp) (hb hby d2_30) (by decide) (by decide) ?_
      exact ⟨rfl, e1, rfl⟩
  · skip
    refine W.iconst X0 hx 7 (1 : Int32) (hb hby d2_6) rfl rfl ?_
    refine W.nret X0 hx hlk (t := .boolean) hret (by simp) (hb hby d2_7) (by decide) (by decide) ?_
    exact ⟨rfl, e0, rfl⟩
theorem d1_0 : decode prog_69_method_2_code 0 = .ok (.iload_n 2, 1) := by decide +kernel
theorem d1_1 : decode prog_69_method_2_code 1 = .ok (.iconst 1, 1) := by decide +kernel
theorem d1_2 : decode prog_69_method_2_code 2 = .ok (.iadd, 1) := by decide +kernel
theorem d1_3 : decode prog_69_method_2_code 3 = .ok (.newarray .int, 2) := by decide +kernel
theorem d1_5 : decode prog_69_method_2_code 5 = .ok (.astore_n 3, 1) := by decide +kernel
theorem d1_6 : decode prog_69_method_2_code 6 = .ok (.aload_n 0, 1) := by decide +kernel
theorem d1_7 : decode prog_69_method_2_code 7 = .ok (.astore 4, 2) := by decide +kernel
theorem d1_9 : decode prog_69_method_2_code 9 = .ok (.aload 4, 2) := by decide +kernel
theorem d1_11 : decode prog_69_method_2_code 11 = .ok (.arraylength, 1) := by decide +kernel
theorem d1_12 : decode prog_69_method_2_code 12 = .ok (.istore 5, 2) := by decide +kernel
theorem d1_14 : decode prog_69_method_2_code 14 = .ok (.iconst 0, 1) := by decide +kernel
theorem d1_15 : decode prog_69_method_2_code 15 = .ok (.istore 6, 2) := by decide +kernel
theorem d1_17 : decode prog_69_method_2_code 17 = .ok (.iload 6, 2) := by decide +kernel
theorem d1_19 : decode prog_69_method_2_code 19 = .ok (.iload 5, 2) := by decide +kernel
theorem d1_21 : decode prog_69_method_2_code 21 = .ok (.if_icmp .ge 28, 3) := by decide +kernel
theorem d1_24 : decode prog_69_method_2_code 24 = .ok (.aload 4, 2) := by decide +kernel
theorem d1_26 : decode prog_69_method_2_code 26 = .ok (.iload 6, 2) := by decide +kernel
theorem d1_28 : decode prog_69_method_2_code 28 = .ok (.iaload, 1) := by decide +kernel
theorem d1_29 : decode prog_69_method_2_code 29 = .ok (.istore 7, 2) := by decide +kernel
theorem d1_31 : decode prog_69_method_2_code 31 = .ok (.aload_n 3, 1) := by decide +kernel
theorem d1_32 : decode prog_69_method_2_code 32 = .ok (.aload_n 1, 1) := by decide +kernel
theorem d1_33 : decode prog_69_method_2_code 33 = .ok (.iload 7, 2) := by decide +kernel
theorem d1_35 : decode prog_69_method_2_code 35 = .ok (.iaload, 1) := by decide +kernel
theorem d1_36 : decode prog_69_method_2_code 36 = .ok (.iconst 1, 1) := by decide +kernel
theorem d1_37 : decode prog_69_method_2_code 37 = .ok (.iadd, 1) := by decide +kernel
theorem d1_38 : decode prog_69_method_2_code 38 = .ok (.dup2, 1) := by decide +kernel
theorem d1_39 : decode prog_69_method_2_code 39 = .ok (.iaload, 1) := by decide +kernel
theorem d1_40 : decode prog_69_method_2_code 40 = .ok (.iconst 1, 1) := by decide +kernel
theorem d1_41 : decode prog_69_method_2_code 41 = .ok (.iadd, 1) := by decide +kernel
theorem d1_42 : decode prog_69_method_2_code 42 = .ok (.iastore, 1) := by decide +kernel
theorem d1_43 : decode prog_69_method_2_code 43 = .ok (.iinc 6 1, 3) := by decide +kernel
theorem d1_46 : decode prog_69_method_2_code 46 = .ok (.goto (-29), 3) := by decide +kernel
theorem d1_49 : decode prog_69_method_2_code 49 = .ok (.iconst 0, 1) := by decide +kernel
theorem d1_50 : decode prog_69_method_2_code 50 = .ok (.istore 4, 2) := by decide +kernel
theorem d1_52 : decode prog_69_method_2_code 52 = .ok (.iload 4, 2) := by decide +kernel
theorem d1_54 : decode prog_69_method_2_code 54 = .ok (.iload_n 2, 1) := by decide +kernel
theorem d1_55 : decode prog_69_method_2_code 55 = .ok (.if_icmp .ge 22, 3) := by decide +kernel
theorem d1_58 : decode prog_69_method_2_code 58 = .ok (.aload_n 3, 1) := by decide +kernel
theorem d1_59 : decode prog_69_method_2_code 59 = .ok (.iload 4, 2) := by decide +kernel
theorem d1_61 : decode prog_69_method_2_code 61 = .ok (.iconst 1, 1) := by decide +kernel
theorem d1_62 : decode prog_69_method_2_code 62 = .ok (.iadd, 1) := by decide +kernel
theorem d1_63 : decode prog_69_method_2_code 63 = .ok (.dup2, 1) := by decide +kernel
theorem d1_64 : decode prog_69_method_2_code 64 = .ok (.iaload, 1) := by decide +kernel
theorem d1_65 : decode prog_69_method_2_code 65 = .ok (.aload_n 3, 1) := by decide +kernel
theorem d1_66 : decode prog_69_method_2_code 66 = .ok (.iload 4, 2) := by decide +kernel
theorem d1_68 : decode prog_69_method_2_code 68 = .ok (.iaload, 1) := by decide +kernel
theorem d1_69 : decode prog_69_method_2_code 69 = .ok (.iadd, 1) := by decide +kernel
theorem d1_70 : decode prog_69_method_2_code 70 = .ok (.iastore, 1) := by decide +kernel
theorem d1_71 : decode prog_69_method_2_code 71 = .ok (.iinc 4 1, 3) := by decide +kernel
theorem d1_74 : decode prog_69_method_2_code 74 = .ok (.goto (-22), 3) := by decide +kernel
theorem d1_77 : decode prog_69_method_2_code 77 = .ok (.aload_n 0, 1) := by decide +kernel
theorem d1_78 : decode prog_69_method_2_code 78 = .ok (.arraylength, 1) := by decide +kernel
theorem d1_79 : decode prog_69_method_2_code 79 = .ok (.newarray .int, 2) := by decide +kernel
theorem d1_81 : decode prog_69_method_2_code 81 = .ok (.astore 4, 2) := by decide +kernel
theorem d1_83 : decode prog_69_method_2_code 83 = .ok (.aload_n 0, 1) := by decide +kernel
theorem d1_84 : decode prog_69_method_2_code 84 = .ok (.astore 5, 2) := by decide +kernel
theorem d1_86 : decode prog_69_method_2_code 86 = .ok (.aload 5, 2) := by decide +kernel
theorem d1_88 : decode prog_69_method_2_code 88 = .ok (.arraylength, 1) := by decide +kernel
theorem d1_89 : decode prog_69_method_2_code 89 = .ok (.istore 6, 2) := by decide +kernel
theorem d1_91 : decode prog_69_method_2_code 91 = .ok (.iconst 0, 1) := by decide +kernel
theorem d1_92 : decode prog_69_method_2_code 92 = .ok (.istore 7, 2) := by decide +kernel
theorem d1_94 : decode prog_69_method_2_code 94 = .ok (.iload 7, 2) := by decide +kernel
theorem d1_96 : decode prog_69_method_2_code 96 = .ok (.iload 6, 2) := by decide +kernel
theorem d1_98 : decode prog_69_method_2_code 98 = .ok (.if_icmp .ge 32, 3) := by decide +kernel
theorem d1_101 : decode prog_69_method_2_code 101 = .ok (.aload 5, 2) := by decide +kernel
theorem d1_103 : decode prog_69_method_2_code 103 = .ok (.iload 7, 2) := by decide +kernel
theorem d1_105 : decode prog_69_method_2_code 105 = .ok (.iaload, 1) := by decide +kernel
theorem d1_106 : decode prog_69_method_2_code 106 = .ok (.istore 8, 2) := by decide +kernel
theorem d1_108 : decode prog_69_method_2_code 108 = .ok (.aload 4, 2) := by decide +kernel
theorem d1_110 : decode prog_69_method_2_code 110 = .ok (.aload_n 3, 1) := by decide +kernel
theorem d1_111 : decode prog_69_method_2_code 111 = .ok (.aload_n 1, 1) := by decide +kernel
theorem d1_112 : decode prog_69_method_2_code 112 = .ok (.iload 8, 2) := by decide +kernel
theorem d1_114 : decode prog_69_method_2_code 114 = .ok (.iaload, 1) := by decide +kernel
theorem d1_115 : decode prog_69_method_2_code 115 = .ok (.dup2, 1) := by decide +kernel
theorem d1_116 : decode prog_69_method_2_code 116 = .ok (.iaload, 1) := by decide +kernel
theorem d1_117 : decode prog_69_method_2_code 117 = .ok (.dup_x2, 1) := by decide +kernel
theorem d1_118 : decode prog_69_method_2_code 118 = .ok (.iconst 1, 1) := by decide +kernel
theorem d1_119 : decode prog_69_method_2_code 119 = .ok (.iadd, 1) := by decide +kernel
theorem d1_120 : decode prog_69_method_2_code 120 = .ok (.iastore, 1) := by decide +kernel
theorem d1_121 : decode prog_69_method_2_code 121 = .ok (.iload 8, 2) := by decide +kernel
theorem d1_123 : decode prog_69_method_2_code 123 = .ok (.iastore, 1) := by decide +kernel
theorem d1_124 : decode prog_69_method_2_code 124 = .ok (.iinc 7 1, 3) := by decide +kernel
theorem d1_127 : decode prog_69_method_2_code 127 = .ok (.goto (-33), 3) := by decide +kernel
theorem d1_130 : decode prog_69_method_2_code 130 = .ok (.aload 4, 2) := by decide +kernel
theorem d1_132 : decode prog_69_method_2_code 132 = .ok (.areturn, 1) := by decide +kernel
theorem pn_1 : plainName "com/example/margrave/margrave/engine/CountingSort" = true := by first | (simp [plainName, overriddenIn]; done) | decide +kernel
theorem ef_rmbr (m : MethodId) (ao : Addr) (ar : Addr) (R : Nat) : entryFrame m #[(.ref ao), (.ref ar), (.int (Int32.ofNat R))] 9 = mkF m 0 #[.val (.ref ao), .val (.ref ar), .val (.int (Int32.ofNat R)), .unset, .unset, .unset, .unset, .unset, .unset] [] := by first | (simp [entryFrame, mkF, argsToLocals, Value.category]; done) | rfl
set_option maxRecDepth 65536 in
set_option maxHeartbeats 40000000 in
theorem rmbr (l : Launch) (Z : State) (a0 : Array Value) (hw : ∀ d ∈ tables_1, d.before a0 Z = true) (ao ar : Addr) (n R : Nat) (o rk : Nat → Nat) (h0 : Heap) (n0 : Nat) (Z0 : n0 ≤ h0.size) (O : NAr Z h0 ao n o) (K : NAr Z h0 ar 4 rk) (ho : ∀ j, o j < 4) (hr : ∀ j, rk j < R) (hn : n ≤ 4) (hR : R ≤ 8) :
    Con l Z (⟨"com/example/margrave/margrave/engine/CountingSort", "byRank", "([I[II)[I"⟩ : MethodName) prog_69_method_2_code 9 (some (.array .int)) [] ({ frames := 0, cells := 2, slots := 13, locals := 0 } : Room) #[(.ref ao), (.ref ar), (.int (Int32.ofNat R))] h0 (fun v h L => ∃ t : Addr, v = some (.ref t) ∧ Fr n0 L ∧ Keep h0 h [] ∧ ∃ G : Nat → Nat, NAr Z h t n G ∧ ∀ j, j < n → G (pos (fun i => rk (o i)) n j) = o j) := by
  refine Con.of (plainFor_of_name pn_1) ?_
  intro p e s m below meth c s₁ hx hby hml hown hnm hret hlk hZ X0 e0
  refine Wp.enter (ef_rmbr m ao ar R) ?_
  obtain ⟨key, hkey⟩ : ∃ z : Nat → Nat, z = fun i => rk (o i) := ⟨_, rfl⟩
  have hkj : ∀ j, key j < R := fun j => by rw [hkey]; exact hr (o j)
  rw [← hkey]
  have L3 : ∀ (d i : Nat) (T : State) (h : Heap) (locs : List Loc) (as1 at1 : Addr) (G : Nat → Nat) (s8 : Slot), i + d = n → Stand p l e ({ frames := 0, cells := 2, slots := 13, locals := 0 } : Room) s m #[(.ref ao), (.ref ar), (.int (Int32.ofNat R))] below meth c T locs 2 13 → T.heap = h → n0 ≤ h.size → Fr n0 locs → Keep h0 h [] → NAr Z h ao n o → NAr Z h ar 4 rk → NAr Z h as1 (R + 1) (fun v => cl key v n + ce key v i) → NAr Z h at1 n G → (One s8 ∧ ∀ j, j < i → G (pos key n j) = o j) → ao ≠ as1 → ar ≠ as1 → ao ≠ at1 → ar ≠ at1 → as1 ≠ at1 → h0.size ≤ as1 → h0.size ≤ at1 → n0 ≤ as1 → n0 ≤ at1 → Wp p e s below (fun v h L => ∃ t : Addr, v = some (.ref t) ∧ Fr n0 L ∧ Keep h0 h [] ∧ ∃ G : Nat → Nat, NAr Z h t n G ∧ ∀ j, j < n → G (pos key n j) = o j) 2 13 (T.setTop (mkF m 94 #[.val (.ref ao), .val (.ref ar), .val (.int (Int32.ofNat R)), .val (.ref as1), .val (.ref at1), .val (.ref ao), .val (.int (Int32.ofNat n)), .val (.int (Int32.ofNat i)), s8] [])) := by
    intro d
    induction d with
    | zero =>
      intro i T h locs as1 at1 G s8 hin X eT z N KP O K S Tt hG ne1 ne2 ne3 ne4 ne5 gs gt ge_as1 ge_at1
      obtain ⟨hs8, hG⟩ := hG
      have gx_as1 := gs
      have gx_at1 := gt
      refine W.iload X hx 96 (hb hby d1_94) rfl rfl ?_
      refine W.iload X hx 98 (hb hby d1_96) rfl rfl ?_
      refine W.icmpGe X hx 130 101 (hb hby d1_98) (by decide) (by decide) rfl (fun q => ?_) (fun q => ?_)
      · skip
        refine W.aload X hx 132 (hb hby d1_130) rfl rfl rfl ?_
        refine W.aret X hx hlk hret rfl rfl (hb hby d1_132) (by decide) (by decide) ?_
        rw [eT]
        exact ⟨at1, rfl, N, KP, G, Tt, fun j hj => hG j (by omega)⟩
      · exact absurd q (by rw [own_lt (by omega) (by omega)]; omega)
    | succ d ih =>
      intro i T h locs as1 at1 G s8 hin X eT z N KP O K S Tt hG ne1 ne2 ne3 ne4 ne5 gs gt ge_as1 ge_at1
      obtain ⟨hs8, hG⟩ := hG
      have gx_as1 := gs
      have gx_at1 := gt
      have hi : i < n := by omega
      have hoi := ho i
      have hki := hkj i
      have hpl := pos_lt (key := key) hi
      have hki' : rk (o i) = key i := by rw [hkey]
      refine W.iload X hx 96 (hb hby d1_94) rfl rfl ?_
      refine W.iload X hx 98 (hb hby d1_96) rfl rfl ?_
      refine W.icmpGe X hx 130 101 (hb hby d1_98) (by decide) (by decide) rfl (fun q => ?_) (fun q => ?_)
      · exact absurd ((own_lt (by omega) (by omega)).mpr hi) q
      · skip
        refine W.aload X hx 103 (hb hby d1_101) rfl rfl rfl ?_
        refine W.iload X hx 105 (hb hby d1_103) rfl rfl ?_
        refine W.iaload X hx hZ 106 i (.int (Int32.ofNat (o i))) eT O (own_ofNat (by omega)) hi rfl (hb hby d1_105) rfl ?_
        refine W.istore X hx 108 #[.val (.ref ao), .val (.ref ar), .val (.int (Int32.ofNat R)), .val (.ref as1), .val (.ref at1), .val (.ref ao), .val (.int (Int32.ofNat n)), .val (.int (Int32.ofNat i)), .val (.int (Int32.ofNat (o i)))] (hb hby d1_106) (XS.store1 rfl hs8 rfl) rfl ?_
        refine W.aload X hx 110 (hb hby d1_108) rfl rfl rfl ?_
        refine W.aloadN X hx 111 (hb hby d1_110) rfl rfl rfl ?_
        refine W.aloadN X hx 112 (hb hby d1_111) rfl rfl rfl ?_
        refine W.iload X hx 114 (hb hby d1_112) rfl rfl ?_
        refine W.iaload X hx hZ 115 (o i) (.int (Int32.ofNat (key i))) eT K (own_ofNat (by omega)) hoi (congrArg (fun z => Value.int (Int32.ofNat z)) hki') (hb hby d1_114) rfl ?_
        refine W.dup2 X hx 116 (hb hby d1_115) rfl rfl rfl ?_
        refine W.iaload X hx hZ 117 (key i) (.int (Int32.ofNat (pos key n i))) eT S (own_ofNat (by omega)) (by omega) rfl (hb hby d1_116) rfl ?_
        refine own_WdupX2 X hx 118 (hb hby d1_117) rfl rfl rfl rfl ?_
        refine W.iconst X hx 119 (1 : Int32) (hb hby d1_118) rfl rfl ?_
        refine W.iadd X hx 120 (hb hby d1_119) rfl ?_
        rw [own_o1 (by omega)]
        refine W.iastore X hx hZ 121 (key i) eT S (own_ofNat (by omega)) (by omega) (hb hby d1_120) rfl ?_
        intro T1 h1 X1 e1 W1 S
        have O := O.other W1 ne1
        have K := K.other W1 ne2
        have Tt := Tt.other W1 ne5.symm
        have z1 : n0 ≤ h1.size := by rw [W1.size]; exact z
        have KP := KP.wr W1 (by first | (refine Or.inl ?_; simp; done) | exact Or.inr gx_as1)
        refine W.iload X1 hx 123 (hb hby d1_121) rfl rfl ?_
        refine W.iastore X1 hx hZ 124 (pos key n i) e1 Tt (own_ofNat (by omega)) hpl (hb hby d1_123) rfl ?_
        intro T2 h2 X2 e2 W2 Tt
        have O := O.other W2 ne3
        have K := K.other W2 ne4
        have S := S.other W2 ne5
        have z2 : n0 ≤ h2.size := by rw [W2.size]; exact z1
        have KP := KP.wr W2 (by first | (refine Or.inl ?_; simp; done) | exact Or.inr gx_at1)
        have S := own_set S
        have Tt := own_set Tt
        refine W.iinc X2 hx 127 (1 : Int32) #[.val (.ref ao), .val (.ref ar), .val (.int (Int32.ofNat R)), .val (.ref as1), .val (.ref at1), .val (.ref ao), .val (.int (Int32.ofNat n)), .val (.int ((Int32.ofNat i) + (1 : Int32))), .val (.int (Int32.ofNat (o i)))] (hb hby d1_124) rfl rfl rfl rfl ?_
        refine W.goto X2 hx 94 (hb hby d1_127) (by decide) (by decide) ?_
        rw [own_o1 (by omega)]
        have S := own_cg (g := fun v => cl key v n + ce key v (i + 1)) S (fun v _ => by
          by_cases q : v = key i
          · subst q; rw [updN_same]; show _ + (ce key (key i) i + _) = _; rw [if_pos rfl]; unfold pos; omega
          · rw [updN_ne q]; show _ + (ce key v i + _) = _; rw [if_neg (fun z => q z.symm)]; rfl)
        exact ih (i + 1) T2 h2 _ as1 at1 _ _ (by omega) X2 e2 z2 (Fr.app (Fr.app N (fr1 ge_as1)) (fr1 ge_at1)) KP O K S Tt ⟨One.val rfl, fun j hj => by
          by_cases q : j = i
          · subst q; rw [updN_same]
          · rw [updN_ne (pos_ne (show j < i by omega) hi)]; exact hG j (by omega)⟩ ne1 ne2 ne3 ne4 ne5 gs gt ge_as1 ge_at1
  have L2 : ∀ (d i : Nat) (T : State) (h : Heap) (locs : List Loc) (as1 : Addr) (s5 s6 s7 : Slot), i + d = R → Stand p l e ({ frames := 0, cells := 2, slots := 13, locals := 0 } : Room) s m #[(.ref ao), (.ref ar), (.int (Int32.ofNat R))] below meth c T locs 1 9 → T.heap = h → n0 ≤ h.size → Fr n0 locs → Keep h0 h [] → NAr Z h ao n o → NAr Z h ar 4 rk → NAr Z h as1 (R + 1) (fun v => if v ≤ i then cl key v n else ce key (v - 1) n) → (One s5 ∧ One s6 ∧ One s7) → ao ≠ as1 → ar ≠ as1 → h0.size ≤ as1 → n0 ≤ as1 → Wp p e s below (fun v h L => ∃ t : Addr, v = some (.ref t) ∧ Fr n0 L ∧ Keep h0 h [] ∧ ∃ G : Nat → Nat, NAr Z h t n G ∧ ∀ j, j < n → G (pos key n j) = o j) 2 13 (T.setTop (mkF m 52 #[.val (.ref ao), .val (.ref ar), .val (.int (Int32.ofNat R)), .val (.ref as1), .val (.int (Int32.ofNat i)), s5, s6, s7, .unset] [])) := by
    intro d
    induction d with
    | zero =>
      intro i T h locs as1 s5 s6 s7 hin X eT z N KP O K S hss ne1 ne2 gs ge_as1
      obtain ⟨hs5, hs6, hs7⟩ := hss
      have gx_as1 := gs
      refine W.iload X hx 54 (hb hby d1_52) rfl rfl ?_
      refine W.iloadN X hx 55 (hb hby d1_54) rfl rfl ?_
      refine W.icmpGe X hx 77 58 (hb hby d1_55) (by decide) (by decide) rfl (fun q => ?_) (fun q => ?_)
      · skip
        refine W.aloadN X hx 78 (hb hby d1_77) rfl rfl rfl ?_
        refine W.arrlen X hx hZ 79 eT O (Int32.ofNat n) rfl (hb hby d1_78) rfl ?_
        refine W.newarr X hx hZ 81 n 4 (hw _ (List.mem_of_getElem? (i := 0) rfl)) eT (hb hby d1_79) (own_ofNat (by omega)) hn (by decide) (by decide) (by decide) rfl ?_
        intro T3 h3 at1 q3 X3 e3 E3 Tt
        have ne_ao_at1 : ao ≠ at1 := fun q => by have := O.lt; rw [q, q3] at this; exact Nat.lt_irrefl _ this
        have ne_ar_at1 : ar ≠ at1 := fun q => by have := K.lt; rw [q, q3] at this; exact Nat.lt_irrefl _ this
        have ne_as1_at1 : as1 ≠ at1 := fun q => by have := S.lt; rw [q, q3] at this; exact Nat.lt_irrefl _ this
        have ge_at1 : n0 ≤ at1 := by have := z; omega
        have gx_at1 : h0.size ≤ at1 := by have := KP.1; omega
        have O := O.ext E3
        have K := K.ext E3
        have S := S.ext E3
        have z3 : n0 ≤ h3.size := Nat.le_trans z E3.1
        have KP := KP.ext E3
        refine W.astore X3 hx 83 #[.val (.ref ao), .val (.ref ar), .val (.int (Int32.ofNat R)), .val (.ref as1), .val (.ref at1), s5, s6, s7, .unset] (hb hby d1_81) rfl rfl rfl ?_
        refine W.aloadN X3 hx 84 (hb hby d1_83) rfl rfl rfl ?_
        refine W.astore X3 hx 86 #[.val (.ref ao), .val (.ref ar), .val (.int (Int32.ofNat R)), .val (.ref as1), .val (.ref at1), .val (.ref ao), s6, s7, .unset] (hb hby d1_84) rfl (XS.store1 rfl hs5 rfl) rfl ?_
        refine W.aload X3 hx 88 (hb hby d1_86) rfl rfl rfl ?_
        refine W.arrlen X3 hx hZ 89 e3 O (Int32.ofNat n) rfl (hb hby d1_88) rfl ?_
        refine W.istore X3 hx 91 #[.val (.ref ao), .val (.ref ar), .val (.int (Int32.ofNat R)), .val (.ref as1), .val (.ref at1), .val (.ref ao), .val (.int (Int32.ofNat n)), s7, .unset] (hb hby d1_89) (XS.store1 rfl hs6 rfl) rfl ?_
        refine W.iconst X3 hx 92 (0 : Int32) (hb hby d1_91) rfl rfl ?_
        refine W.istore X3 hx 94 #[.val (.ref ao), .val (.ref ar), .val (.int (Int32.ofNat R)), .val (.ref as1), .val (.ref at1), .val (.ref ao), .val (.int (Int32.ofNat n)), .val (.int (0 : Int32)), .unset] (hb hby d1_92) (XS.store1 rfl hs7 rfl) rfl ?_
        have S := own_cg (g := fun v => cl key v n + ce key v 0) S (fun v hv => by rw [if_pos (by omega)]; rfl)
        exact L3 n 0 T3 h3 _ as1 at1 (fun _ => 0) _ (by omega) X3 e3 z3 N KP O K S Tt ⟨One.u, fun j hj => absurd hj (Nat.not_lt_zero _)⟩ ne1 ne2 ne_ao_at1 ne_ar_at1 ne_as1_at1 gs gx_at1 ge_as1 ge_at1
      · exact absurd q (by rw [own_lt (by omega) (by omega)]; omega)
    | succ d ih =>
      intro i T h locs as1 s5 s6 s7 hin X eT z N KP O K S hss ne1 ne2 gs ge_as1
      obtain ⟨hs5, hs6, hs7⟩ := hss
      have gx_as1 := gs
      have hi : i < R := by omega
      refine W.iload X hx 54 (hb hby d1_52) rfl rfl ?_
      refine W.iloadN X hx 55 (hb hby d1_54) rfl rfl ?_
      have c1 := ce_le key i n
      have c2 := cl_le key i n
      refine W.icmpGe X hx 77 58 (hb hby d1_55) (by decide) (by decide) rfl (fun q => ?_) (fun q => ?_)
      · exact absurd ((own_lt (by omega) (by omega)).mpr hi) q
      · skip
        refine W.aloadN X hx 59 (hb hby d1_58) rfl rfl rfl ?_
        refine W.iload X hx 61 (hb hby d1_59) rfl rfl ?_
        refine W.iconst X hx 62 (1 : Int32) (hb hby d1_61) rfl rfl ?_
        refine W.iadd X hx 63 (hb hby d1_62) rfl ?_
        refine W.dup2 X hx 64 (hb hby d1_63) rfl rfl rfl ?_
        rw [own_o1 (by omega)]
        refine W.iaload X hx hZ 65 (i + 1) (.int (Int32.ofNat (ce key i n))) eT S (own_ofNat (by omega)) (by omega) (congrArg (fun z => Value.int (Int32.ofNat z)) (if_neg (by omega))) (hb hby d1_64) rfl ?_
        refine W.aloadN X hx 66 (hb hby d1_65) rfl rfl rfl ?_
        refine W.iload X hx 68 (hb hby d1_66) rfl rfl ?_
        refine W.iaload X hx hZ 69 i (.int (Int32.ofNat (cl key i n))) eT S (own_ofNat (by omega)) (by omega) (congrArg (fun z => Value.int (Int32.ofNat z)) (if_pos (Nat.le_refl _))) (hb hby d1_68) rfl ?_
        refine W.iadd X hx 70 (hb hby d1_69) rfl ?_
        rw [own_oadd (by omega) (by omega)]
        refine W.iastore X hx hZ 71 (i + 1) eT S (own_ofNat (by omega)) (by omega) (hb hby d1_70) rfl ?_
        intro T4 h4 X4 e4 W4 S
        have O := O.other W4 ne1
        have K := K.other W4 ne2
        have z4 : n0 ≤ h4.size := by rw [W4.size]; exact z
        have KP := KP.wr W4 (by first | (refine Or.inl ?_; simp; done) | exact Or.inr gx_as1)
        have S := own_set S
        refine W.iinc X4 hx 74 (1 : Int32) #[.val (.ref ao), .val (.ref ar), .val (.int (Int32.ofNat R)), .val (.ref as1), .val (.int ((Int32.ofNat i) + (1 : Int32))), s5, s6, s7, .unset] (hb hby d1_71) rfl rfl rfl rfl ?_
        refine W.goto X4 hx 52 (hb hby d1_74) (by decide) (by decide) ?_
        rw [own_o1 (by omega)]
        have S := own_cg (g := fun v => if v ≤ i + 1 then cl key v n else ce key (v - 1) n) S (fun v _ => by
          by_cases q : v = i + 1
          · subst q; rw [updN_same, if_pos (Nat.le_refl _), cl_succ]; omega
          · rw [updN_ne q]; by_cases r : v ≤ i
            · rw [if_pos r, if_pos (by omega)]
            · rw [if_neg r, if_neg (by omega)])
        exact ih (i + 1) T4 h4 _ as1 _ _ _ (by omega) X4 e4 z4 (Fr.app N (fr1 ge_as1)) KP O K S ⟨hs5, hs6, hs7⟩ ne1 ne2 gs ge_as1
  have L1 : ∀ (d i : Nat) (T : State) (h : Heap) (locs : List Loc) (as1 : Addr) (s7 : Slot), i + d = n → Stand p l e ({ frames := 0, cells := 2, slots := 13, locals := 0 } : Room) s m #[(.ref ao), (.ref ar), (.int (Int32.ofNat R))] below meth c T locs 1 9 → T.heap = h → n0 ≤ h.size → Fr n0 locs → Keep h0 h [] → NAr Z h ao n o → NAr Z h ar 4 rk → NAr Z h as1 (R + 1) (fun v => if v = 0 then 0 else ce key (v - 1) i) → One s7 → ao ≠ as1 → ar ≠ as1 → h0.size ≤ as1 → n0 ≤ as1 → Wp p e s below (fun v h L => ∃ t : Addr, v = some (.ref t) ∧ Fr n0 L ∧ Keep h0 h [] ∧ ∃ G : Nat → Nat, NAr Z h t n G ∧ ∀ j, j < n → G (pos key n j) = o j) 2 13 (T.setTop (mkF m 17 #[.val (.ref ao), .val (.ref ar), .val (.int (Int32.ofNat R)), .val (.ref as1), .val (.ref ao), .val (.int (Int32.ofNat n)), .val (.int (Int32.ofNat i)), s7, .unset] [])) := by
    intro d
    induction d with
    | zero =>
      intro i T h locs as1 s7 hin X eT z N KP O K S hs7 ne1 ne2 gs ge_as1
      have gx_as1 := gs
      refine W.iload X hx 19 (hb hby d1_17) rfl rfl ?_
      refine W.iload X hx 21 (hb hby d1_19) rfl rfl ?_
      refine W.icmpGe X hx 49 24 (hb hby d1_21) (by decide) (by decide) rfl (fun q => ?_) (fun q => ?_)
      · skip
        refine W.iconst X hx 50 (0 : Int32) (hb hby d1_49) rfl rfl ?_
        refine W.istore X hx 52 #[.val (.ref ao), .val (.ref ar), .val (.int (Int32.ofNat R)), .val (.ref as1), .val (.int (0 : Int32)), .val (.int (Int32.ofNat n)), .val (.int (Int32.ofNat i)), s7, .unset] (hb hby d1_50) rfl rfl ?_
        have hin' : i = n := by omega
        subst hin'
        have S := own_cg (g := fun v => if v ≤ 0 then cl key v i else ce key (v - 1) i) S (fun v _ => by
          by_cases q : v = 0
          · subst q; rw [if_pos (Nat.le_refl _), if_pos rfl, cl_zero]
          · rw [if_neg q, if_neg (by omega)])
        exact L2 R 0 T h _ as1 _ _ _ (by omega) X eT z N KP O K S ⟨One.val rfl, One.val rfl, hs7⟩ ne1 ne2 gs ge_as1
      · exact absurd q (by rw [own_lt (by omega) (by omega)]; omega)
    | succ d ih =>
      intro i T h locs as1 s7 hin X eT z N KP O K S hs7 ne1 ne2 gs ge_as1
      have gx_as1 := gs
      have hi : i < n := by omega
      have hoi := ho i
      have hki := hkj i
      have hki' : rk (o i) = key i := by rw [hkey]
      have c1 := ce_le key (key i) i
      refine W.iload X hx 19 (hb hby d1_17) rfl rfl ?_
      refine W.iload X hx 21 (hb hby d1_19) rfl rfl ?_
      refine W.icmpGe X hx 49 24 (hb hby d1_21) (by decide) (by decide) rfl (fun q => ?_) (fun q => ?_)
      · exact absurd ((own_lt (by omega) (by omega)).mpr hi) q
      · skip
        refine W.aload X hx 26 (hb hby d1_24) rfl rfl rfl ?_
        refine W.iload X hx 28 (hb hby d1_26) rfl rfl ?_
        refine W.iaload X hx hZ 29 i (.int (Int32.ofNat (o i))) eT O (own_ofNat (by omega)) hi rfl (hb hby d1_28) rfl ?_
        refine W.istore X hx 31 #[.val (.ref ao), .val (.ref ar), .val (.int (Int32.ofNat R)), .val (.ref as1), .val (.ref ao), .val (.int (Int32.ofNat n)), .val (.int (Int32.ofNat i)), .val (.int (Int32.ofNat (o i))), .unset] (hb hby d1_29) (XS.store1 rfl hs7 rfl) rfl ?_
        refine W.aloadN X hx 32 (hb hby d1_31) rfl rfl rfl ?_
        refine W.aloadN X hx 33 (hb hby d1_32) rfl rfl rfl ?_
        refine W.iload X hx 35 (hb hby d1_33) rfl rfl ?_
        refine W.iaload X hx hZ 36 (o i) (.int (Int32.ofNat (key i))) eT K (own_ofNat (by omega)) hoi (congrArg (fun z => Value.int (Int32.ofNat z)) hki') (hb hby d1_35) rfl ?_
        refine W.iconst X hx 37 (1 : Int32) (hb hby d1_36) rfl rfl ?_
        refine W.iadd X hx 38 (hb hby d1_37) rfl ?_
        rw [own_o1 (by omega)]
        refine W.dup2 X hx 39 (hb hby d1_38) rfl rfl rfl ?_
        refine W.iaload X hx hZ 40 (key i + 1) (.int (Int32.ofNat (ce key (key i) i))) eT S (own_ofNat (by omega)) (by omega) (congrArg (fun z => Value.int (Int32.ofNat z)) (if_neg (by omega))) (hb hby d1_39) rfl ?_
        refine W.iconst X hx 41 (1 : Int32) (hb hby d1_40) rfl rfl ?_
        refine W.iadd X hx 42 (hb hby d1_41) rfl ?_
        rw [own_o1 (by omega)]
        refine W.iastore X hx hZ 43 (key i + 1) eT S (own_ofNat (by omega)) (by omega) (hb hby d1_42) rfl ?_
        intro T5 h5 X5 e5 W5 S
        have O := O.other W5 ne1
        have K := K.other W5 ne2
        have z5 : n0 ≤ h5.size := by rw [W5.size]; exact z
        have KP := KP.wr W5 (by first | (refine Or.inl ?_; simp; done) | exact Or.inr gx_as1)
        have S := own_set S
        refine W.iinc X5 hx 46 (1 : Int32) #[.val (.ref ao), .val (.ref ar), .val (.int (Int32.ofNat R)), .val (.ref as1), .val (.ref ao), .val (.int (Int32.ofNat n)), .val (.int ((Int32.ofNat i) + (1 : Int32))), .val (.int (Int32.ofNat (o i))), .unset] (hb hby d1_43) rfl rfl rfl rfl ?_
        refine W.goto X5 hx 17 (hb hby d1_46) (by decide) (by decide) ?_
        rw [own_o1 (by omega)]
        have S := own_cg (g := fun v => if v = 0 then 0 else ce key (v - 1) (i + 1)) S (fun v _ => by
          by_cases q : v = key i + 1
          · subst q; rw [updN_same, if_neg (by omega)]; show ce key (key i) i + _ = _; rw [if_pos (by omega)]
          · rw [updN_ne q]; by_cases r : v = 0
            · rw [if_pos r, if_pos r]
            · rw [if_neg r, if_neg r]; show ce key (v - 1) i + _ = _; rw [if_neg (by omega)]; rfl)
        exact ih (i + 1) T5 h5 _ as1 _ (by omega) X5 e5 z5 (Fr.app N (fr1 ge_as1)) KP O K S (One.val rfl) ne1 ne2 gs ge_as1
  have KP : Keep h0 h0 [] := Keep.refl _ _
  refine W.iloadN X0 hx 1 (hb hby d1_0) rfl rfl ?_
  refine W.iconst X0 hx 2 (1 : Int32) (hb hby d1_1) rfl rfl ?_
  refine W.iadd X0 hx 3 (hb hby d1_2) rfl ?_
  rw [own_o1 (by omega)]
  refine W.newarr X0 hx hZ 5 (R + 1) 9 (hw _ (List.mem_of_getElem? (i := 0) rfl)) e0 (hb hby d1_3) (own_ofNat (by omega)) (by omega) (by decide) (by decide) (by decide) rfl ?_
  intro T6 h6 as1 q6 X6 e6 E6 S
  have ne_ao_as1 : ao ≠ as1 := fun q => by have := O.lt; rw [q, q6] at this; exact Nat.lt_irrefl _ this
  have ne_ar_as1 : ar ≠ as1 := fun q => by have := K.lt; rw [q, q6] at this; exact Nat.lt_irrefl _ this
  have ge_as1 : n0 ≤ as1 := by have := Z0; omega
  have gx_as1 : h0.size ≤ as1 := by have := KP.1; omega
  have O := O.ext E6
  have K := K.ext E6
  have z6 : n0 ≤ h6.size := Nat.le_trans Z0 E6.1
  have KP := KP.ext E6
  refine W.astoreN X6 hx 6 #[.val (.ref ao), .val (.ref ar), .val (.int (Int32.ofNat R)), .val (.ref as1), .unset, .unset, .unset, .unset, .unset] (hb hby d1_5) rfl rfl rfl ?_
  refine W.aloadN X6 hx 7 (hb hby d1_6) rfl rfl rfl ?_
  refine W.astore X6 hx 9 #[.val (.ref ao), .val (.ref ar), .val (.int (Int32.ofNat R)), .val (.ref as1), .val (.ref ao), .unset, .unset, .unset, .unset] (hb hby d1_7) rfl rfl rfl ?_
  refine W.aload X6 hx 11 (hb hby d1_9) rfl rfl rfl ?_
  refine W.arrlen X6 hx hZ 12 e6 O (Int32.ofNat n) rfl (hb hby d1_11) rfl ?_
  refine W.istore X6 hx 14 #[.val (.ref ao), .val (.ref ar), .val (.int (Int32.ofNat R)), .val (.ref as1), .val (.ref ao), .val (.int (Int32.ofNat n)), .unset, .unset, .unset] (hb hby d1_12) rfl rfl ?_
  refine W.iconst X6 hx 15 (0 : Int32) (hb hby d1_14) rfl rfl ?_
  refine W.istore X6 hx 17 #[.val (.ref ao), .val (.ref ar), .val (.int (Int32.ofNat R)), .val (.ref as1), .val (.ref ao), .val (.int (Int32.ofNat n)), .val (.int (0 : Int32)), .unset, .unset] (hb hby d1_15) rfl rfl ?_
  have S := own_cg (f := fun _ => 0) (g := fun v => if v = 0 then 0 else ce key (v - 1) 0) S (fun v _ => by split <;> rfl)
  exact L1 n 0 T6 h6 _ as1 _ (by omega) X6 e6 z6 (Fr.nil _) KP O K S One.u ne_ao_as1 ne_ar_as1 gx_as1 ge_as1
theorem pn_0 : plainName "com/example/margrave/margrave/engine/CountingSortByRankPinLaw" = true := by first | (simp [plainName, overriddenIn]; done) | decide +kernel
theorem ef_rm0 (m : MethodId) (p1 : Int32) (p2 : Int32) (p3 : Int32) (p4 : Int32) : entryFrame m #[(.int p1), (.int p2), (.int p3), (.int p4)] maxLocals = mkF m 0 #[.val (.int p1), .val (.int p2), .val (.int p3), .val (.int p4), .unset, .unset, .unset, .unset, .unset, .unset, .unset, .unset, .unset, .unset, .unset, .unset] [] := by first | (simp [entryFrame, mkF, argsToLocals, Value.category, maxLocals]; done) | rfl
set_option maxRecDepth 65536 in
set_option maxHeartbeats 40000000 in
theorem rm0 (l : Launch) (Z : State) (a0 : Array Value) (hw : ∀ d ∈ tables_1, d.before a0 Z = true) (ws : List Jvm.Cond) (p1 p2 p3 p4 : Int32) (h0 : Heap) (n0 : Nat) (Z0 : n0 ≤ h0.size)  :
    Con l Z x code maxLocals ret ws room_1 #[(.int p1), (.int p2), (.int p3), (.int p4)] h0 (fun v h L => v = some (.int 1) ∧ Fr n0 L) := by
  refine Con.of (plainFor_of_name pn_0) ?_
  intro p e s m below meth c s₁ hx hby hml hown hnm hret hlk hZ X0 e0
  refine Wp.enter (ef_rm0 m p1 p2 p3 p4) ?_
  refine W.iloadN X0 hx 1 (hb hby at_0) rfl rfl ?_
  refine W.bipush X0 hx 3 (7 : Int32) (hb hby at_1) rfl rfl ?_
  refine W.iand X0 hx 4 (hb hby at_3) rfl ?_
  obtain ⟨rr, hrr, err⟩ := own_and p3 7 (by decide)
  have hrr : rr ≤ 7 := by have e : (7 : Int32).toInt = 7 := rfl; omega
  have err := own_ieq err
  rw [err]
  refine W.iconst X0 hx 5 (1 : Int32) (hb hby at_4) rfl rfl ?_
  refine W.iadd X0 hx 6 (hb hby at_5) rfl ?_
  refine W.istore X0 hx 8 #[.val (.int p1), .val (.int p2), .val (.int p3), .val (.int p4), .val (.int ((Int32.ofNat rr) + (1 : Int32))), .unset, .unset, .unset, .unset, .unset, .unset, .unset, .unset, .unset, .unset, .unset] (hb hby at_6) rfl rfl ?_
  refine W.iconst X0 hx 9 (4 : Int32) (hb hby at_8) rfl rfl ?_
  skip
  rw [own_o1 (by omega)]
  refine W.newarr X0 hx hZ 11 4 4 (hw _ (List.mem_of_getElem? (i := 0) rfl)) e0 (hb hby at_9) (by decide) (by decide) (by decide) (by decide) (by decide) rfl ?_
  intro T1 h1 ar q1 X1 e1 E1 K
  have ge_ar : n0 ≤ ar := by have := Z0; omega
  have z1 : n0 ≤ h1.size := Nat.le_trans Z0 E1.1
  have K : NAr Z h1 ar 4 (fun _ => 0) := K
  have hR : (Int32.ofNat (rr + 1)).toInt = ((rr + 1 : Nat) : Int) := own_ofNat (by omega)
  have hR0 : Int32.ofNat (rr + 1) ≠ 0 := fun z => by rw [z] at hR; have e : (0 : Int32).toInt = 0 := rfl; omega
  refine W.astore X1 hx 13 #[.val (.int p1), .val (.int p2), .val (.int p3), .val (.int p4), .val (.int (Int32.ofNat (rr + 1))), .val (.ref ar), .unset, .unset, .unset, .unset, .unset, .unset, .unset, .unset, .unset, .unset] (hb hby at_11) rfl rfl rfl ?_
  refine W.aload X1 hx 15 (hb hby at_13) rfl rfl rfl ?_
  refine W.iconst X1 hx 16 (0 : Int32) (hb hby at_15) rfl rfl ?_
  refine W.iloadN X1 hx 17 (hb hby at_16) rfl rfl ?_
  refine W.sipush X1 hx 20 (255 : Int32) (hb hby at_17) rfl rfl ?_
  refine W.iand X1 hx 21 (hb hby at_20) rfl ?_
  obtain ⟨b0, hb0, eb0⟩ := own_and p4 255 (by decide)
  have hb0 : b0 ≤ 255 := by have e : (255 : Int32).toInt = 255 := rfl; omega
  have eb0 := own_ieq eb0
  rw [eb0]
  refine W.iload X1 hx 23 (hb hby at_21) rfl rfl ?_
  refine W.irem X1 hx 24 (hb hby at_23) hR0 rfl ?_
  obtain ⟨r0, hr0, er0, -⟩ := own_rem (x := Int32.ofNat b0) (y := Int32.ofNat (rr + 1)) (by rw [own_ofNat (by omega)]; omega) (by rw [hR]; omega)
  have hr0 : r0 < rr + 1 := by omega
  have er0 := own_ieq er0
  rw [er0]
  refine W.iastore X1 hx hZ 25 0 e1 K (by decide) (by decide) (hb hby at_24) rfl ?_
  intro T2 h2 X2 e2 W2 K
  have z2 : n0 ≤ h2.size := by rw [W2.size]; exact z1
  have K := own_set K
  refine W.aload X2 hx 27 (hb hby at_25) rfl rfl rfl ?_
  refine W.iconst X2 hx 28 (1 : Int32) (hb hby at_27) rfl rfl ?_
  refine W.iloadN X2 hx 29 (hb hby at_28) rfl rfl ?_
  refine W.bipush X2 hx 31 (8 : Int32) (hb hby at_29) rfl rfl ?_
  refine W.iushr X2 hx 32 (hb hby at_31) rfl ?_
  refine W.sipush X2 hx 35 (255 : Int32) (hb hby at_32) rfl rfl ?_
  refine W.iand X2 hx 36 (hb hby at_35) rfl ?_
  obtain ⟨b1, hb1, eb1⟩ := own_and ((p4).toUInt32 >>> ((8 : Int32) &&& 31).toUInt32).toInt32 255 (by decide)
  have hb1 : b1 ≤ 255 := by have e : (255 : Int32).toInt = 255 := rfl; omega
  have eb1 := own_ieq eb1
  rw [eb1]
  refine W.iload X2 hx 38 (hb hby at_36) rfl rfl ?_
  refine W.irem X2 hx 39 (hb hby at_38) hR0 rfl ?_
  obtain ⟨r1, hr1, er1, -⟩ := own_rem (x := Int32.ofNat b1) (y := Int32.ofNat (rr + 1)) (by rw [own_ofNat (by omega)]; omega) (by rw [hR]; omega)
  have hr1 : r1 < rr + 1 := by omega
  have er1 := own_ieq er1
  rw [er1]
  refine W.iastore X2 hx hZ 40 1 e2 K (by decide) (by decide) (hb hby at_39) rfl ?_
  intro T3 h3 X3 e3 W3 K
  have z3 : n0 ≤ h3.size := by rw [W3.size]; exact z2
  have K := own_set K
  refine W.aload X3 hx 42 (hb hby at_40) rfl rfl rfl ?_
  refine W.iconst X3 hx 43 (2 : Int32) (hb hby at_42) rfl rfl ?_
  refine W.iloadN X3 hx 44 (hb hby at_43) rfl rfl ?_
  refine W.bipush X3 hx 46 (16 : Int32) (hb hby at_44) rfl rfl ?_
  refine W.iushr X3 hx 47 (hb hby at_46) rfl ?_
  refine W.sipush X3 hx 50 (255 : Int32) (hb hby at_47) rfl rfl ?_
  refine W.iand X3 hx 51 (hb hby at_50) rfl ?_
  obtain ⟨b2, hb2, eb2⟩ := own_and ((p4).toUInt32 >>> ((16 : Int32) &&& 31).toUInt32).toInt32 255 (by decide)
  have hb2 : b2 ≤ 255 := by have e : (255 : Int32).toInt = 255 := rfl; omega
  have eb2 := own_ieq eb2
  rw [eb2]
  refine W.iload X3 hx 53 (hb hby at_51) rfl rfl ?_
  refine W.irem X3 hx 54 (hb hby at_53) hR0 rfl ?_
  obtain ⟨r2, hr2, er2, -⟩ := own_rem (x := Int32.ofNat b2) (y := Int32.ofNat (rr + 1)) (by rw [own_ofNat (by omega)]; omega) (by rw [hR]; omega)
  have hr2 : r2 < rr + 1 := by omega
  have er2 := own_ieq er2
  rw [er2]
  refine W.iastore X3 hx hZ 55 2 e3 K (by decide) (by decide) (hb hby at_54) rfl ?_
  intro T4 h4 X4 e4 W4 K
  have z4 : n0 ≤ h4.size := by rw [W4.size]; exact z3
  have K := own_set K
  refine W.aload X4 hx 57 (hb hby at_55) rfl rfl rfl ?_
  refine W.iconst X4 hx 58 (3 : Int32) (hb hby at_57) rfl rfl ?_
  refine W.iloadN X4 hx 59 (hb hby at_58) rfl rfl ?_
  refine W.bipush X4 hx 61 (24 : Int32) (hb hby at_59) rfl rfl ?_
  refine W.iushr X4 hx 62 (hb hby at_61) rfl ?_
  refine W.sipush X4 hx 65 (255 : Int32) (hb hby at_62) rfl rfl ?_
  refine W.iand X4 hx 66 (hb hby at_65) rfl ?_
  obtain ⟨b3, hb3, eb3⟩ := own_and ((p4).toUInt32 >>> ((24 : Int32) &&& 31).toUInt32).toInt32 255 (by decide)
  have hb3 : b3 ≤ 255 := by have e : (255 : Int32).toInt = 255 := rfl; omega
  have eb3 := own_ieq eb3
  rw [eb3]
  refine W.iload X4 hx 68 (hb hby at_66) rfl rfl ?_
  refine W.irem X4 hx 69 (hb hby at_68) hR0 rfl ?_
  obtain ⟨r3, hr3, er3, -⟩ := own_rem (x := Int32.ofNat b3) (y := Int32.ofNat (rr + 1)) (by rw [own_ofNat (by omega)]; omega) (by rw [hR]; omega)
  have hr3 : r3 < rr + 1 := by omega
  have er3 := own_ieq er3
  rw [er3]
  refine W.iastore X4 hx hZ 70 3 e4 K (by decide) (by decide) (hb hby at_69) rfl ?_
  intro T5 h5 X5 e5 W5 K
  have z5 : n0 ≤ h5.size := by rw [W5.size]; exact z4
  have K := own_set K
  refine W.iloadN X5 hx 71 (hb hby at_70) rfl rfl ?_
  refine W.ldcI X5 hx hZ 73 hown (hw _ (List.mem_of_getElem? (i := 1) rfl)) (hb hby at_71) rfl ?_
  refine W.iand X5 hx 74 (hb hby at_73) rfl ?_
  obtain ⟨pm, hpm, epm⟩ := own_and p1 2147483647 (by decide)
  have epm2 := own_ieq epm
  have hpm2 : pm ≤ 2147483647 := by have e : (2147483647 : Int32).toInt = 2147483647 := rfl; omega
  refine W.bipush X5 hx 76 (24 : Int32) (hb hby at_74) rfl rfl ?_
  refine W.irem X5 hx 77 (hb hby at_76) (by decide) rfl ?_
  obtain ⟨ix, hix, eix, -⟩ := own_rem (x := p1 &&& 2147483647) (y := 24) (by omega) (by decide)
  have hix : ix < 24 := by have e : (24 : Int32).toInt = 24 := rfl; omega
  have eix := own_ieq eix
  rw [eix]
  refine W.istore X5 hx 79 #[.val (.int p1), .val (.int p2), .val (.int p3), .val (.int p4), .val (.int (Int32.ofNat (rr + 1))), .val (.ref ar), .val (.int (Int32.ofNat ix)), .unset, .unset, .unset, .unset, .unset, .unset, .unset, .unset, .unset] (hb hby at_77) rfl rfl ?_
  refine W.iload X5 hx 81 (hb hby at_79) rfl rfl ?_
  refine W.iconst X5 hx 82 (4 : Int32) (hb hby at_81) rfl rfl ?_
  refine W.irem X5 hx 83 (hb hby at_82) (by decide) rfl ?_
  obtain ⟨i0, hi0, ei0, -⟩ := own_rem (x := Int32.ofNat ix) (y := 4) (by rw [own_ofNat (by omega)]; omega) (by decide)
  have hi0 : i0 < 4 := by have e : (4 : Int32).toInt = 4 := rfl; omega
  have ei0 := own_ieq ei0
  rw [ei0]
  refine W.istore X5 hx 85 #[.val (.int p1), .val (.int p2), .val (.int p3), .val (.int p4), .val (.int (Int32.ofNat (rr + 1))), .val (.ref ar), .val (.int (Int32.ofNat ix)), .val (.int (Int32.ofNat i0)), .unset, .unset, .unset, .unset, .unset, .unset, .unset, .unset] (hb hby at_83) rfl rfl ?_
  refine W.iload X5 hx 87 (hb hby at_85) rfl rfl ?_
  refine W.iconst X5 hx 88 (4 : Int32) (hb hby at_87) rfl rfl ?_
  refine W.idiv X5 hx 89 (hb hby at_88) (by decide) rfl ?_
  obtain ⟨rs, ers, vrs⟩ := own_div (x := Int32.ofNat ix) (y := 4) (by rw [own_ofNat (by omega)]; omega) (by decide)
  have hrs : rs < 6 := by rw [own_ofNat (by omega)] at vrs; have e : (4 : Int32).toInt = 4 := rfl; rw [e] at vrs; omega
  have ers := own_ieq ers
  rw [ers]
  refine W.istore X5 hx 91 #[.val (.int p1), .val (.int p2), .val (.int p3), .val (.int p4), .val (.int (Int32.ofNat (rr + 1))), .val (.ref ar), .val (.int (Int32.ofNat ix)), .val (.int (Int32.ofNat i0)), .val (.int (Int32.ofNat rs)), .unset, .unset, .unset, .unset, .unset, .unset, .unset] (hb hby at_89) rfl rfl ?_
  refine W.iconst X5 hx 92 (1 : Int32) (hb hby at_91) rfl rfl ?_
  refine W.iload X5 hx 94 (hb hby at_92) rfl rfl ?_
  refine W.iconst X5 hx 95 (3 : Int32) (hb hby at_94) rfl rfl ?_
  refine W.irem X5 hx 96 (hb hby at_95) (by decide) rfl ?_
  obtain ⟨j1, hj1, ej1, -⟩ := own_rem (x := Int32.ofNat rs) (y := 3) (by rw [own_ofNat (by omega)]; omega) (by decide)
  have hj1 : j1 < 3 := by have e : (3 : Int32).toInt = 3 := rfl; omega
  have ej1 := own_ieq ej1
  rw [ej1]
  refine W.iadd X5 hx 97 (hb hby at_96) rfl ?_
  rw [show (1 : Int32) + Int32.ofNat j1 = Int32.ofNat (1 + j1) from own_oadd (n := 1) (by decide) (by omega)]
  refine W.istore X5 hx 99 #[.val (.int p1), .val (.int p2), .val (.int p3), .val (.int p4), .val (.int (Int32.ofNat (rr + 1))), .val (.ref ar), .val (.int (Int32.ofNat ix)), .val (.int (Int32.ofNat i0)), .val (.int (Int32.ofNat rs)), .val (.int (Int32.ofNat (1 + j1))), .unset, .unset, .unset, .unset, .unset, .unset] (hb hby at_97) rfl rfl ?_
  refine W.iconst X5 hx 100 (2 : Int32) (hb hby at_99) rfl rfl ?_
  refine W.iload X5 hx 102 (hb hby at_100) rfl rfl ?_
  refine W.iconst X5 hx 103 (3 : Int32) (hb hby at_102) rfl rfl ?_
  refine W.idiv X5 hx 104 (hb hby at_103) (by decide) rfl ?_
  obtain ⟨j2, ej2, vj2⟩ := own_div (x := Int32.ofNat rs) (y := 3) (by rw [own_ofNat (by omega)]; omega) (by decide)
  have hj2 : j2 < 2 := by rw [own_ofNat (by omega)] at vj2; have e : (3 : Int32).toInt = 3 := rfl; rw [e] at vj2; omega
  have ej2 := own_ieq ej2
  rw [ej2]
  refine W.iadd X5 hx 105 (hb hby at_104) rfl ?_
  rw [show (2 : Int32) + Int32.ofNat j2 = Int32.ofNat (2 + j2) from own_oadd (n := 2) (by decide) (by omega)]
  refine W.istore X5 hx 107 #[.val (.int p1), .val (.int p2), .val (.int p3), .val (.int p4), .val (.int (Int32.ofNat (rr + 1))), .val (.ref ar), .val (.int (Int32.ofNat ix)), .val (.int (Int32.ofNat i0)), .val (.int (Int32.ofNat rs)), .val (.int (Int32.ofNat (1 + j1))), .val (.int (Int32.ofNat (2 + j2))), .unset, .unset, .unset, .unset, .unset] (hb hby at_105) rfl rfl ?_
  refine W.iconst X5 hx 108 (4 : Int32) (hb hby at_107) rfl rfl ?_
  refine W.newarr X5 hx hZ 110 4 4 (hw _ (List.mem_of_getElem? (i := 0) rfl)) e5 (hb hby at_108) (by decide) (by decide) (by decide) (by decide) (by decide) rfl ?_
  intro T6 h6 aa q6 X6 e6 E6 A
  have ne_ar_aa : ar ≠ aa := fun q => by have := K.lt; rw [q, q6] at this; exact Nat.lt_irrefl _ this
  have ge_aa : n0 ≤ aa := by have := z5; omega
  have K := K.ext E6
  have z6 : n0 ≤ h6.size := Nat.le_trans z5 E6.1
  have A : NAr Z h6 aa 4 (fun _ => 0) := A
  refine W.dup X6 hx 111 (hb hby at_110) rfl rfl ?_
  refine W.iconst X6 hx 112 (0 : Int32) (hb hby at_111) rfl rfl ?_
  refine W.iconst X6 hx 113 (0 : Int32) (hb hby at_112) rfl rfl ?_
  refine W.iastore X6 hx hZ 114 0 e6 A (by decide) (by decide) (hb hby at_113) rfl ?_
  intro T7 h7 X7 e7 W7 A
  have K := K.other W7 ne_ar_aa
  have z7 : n0 ≤ h7.size := by rw [W7.size]; exact z6
  have A := own_set (x := 0) A
  refine W.dup X7 hx 115 (hb hby at_114) rfl rfl ?_
  refine W.iconst X7 hx 116 (1 : Int32) (hb hby at_115) rfl rfl ?_
  refine W.iconst X7 hx 117 (1 : Int32) (hb hby at_116) rfl rfl ?_
  refine W.iastore X7 hx hZ 118 1 e7 A (by decide) (by decide) (hb hby at_117) rfl ?_
  intro T8 h8 X8 e8 W8 A
  have K := K.other W8 ne_ar_aa
  have z8 : n0 ≤ h8.size := by rw [W8.size]; exact z7
  have A := own_set (x := 1) A
  refine W.dup X8 hx 119 (hb hby at_118) rfl rfl ?_
  refine W.iconst X8 hx 120 (2 : Int32) (hb hby at_119) rfl rfl ?_
  refine W.iconst X8 hx 121 (2 : Int32) (hb hby at_120) rfl rfl ?_
  refine W.iastore X8 hx hZ 122 2 e8 A (by decide) (by decide) (hb hby at_121) rfl ?_
  intro T9 h9 X9 e9 W9 A
  have K := K.other W9 ne_ar_aa
  have z9 : n0 ≤ h9.size := by rw [W9.size]; exact z8
  have A := own_set (x := 2) A
  refine W.dup X9 hx 123 (hb hby at_122) rfl rfl ?_
  refine W.iconst X9 hx 124 (3 : Int32) (hb hby at_123) rfl rfl ?_
  refine W.iconst X9 hx 125 (3 : Int32) (hb hby at_124) rfl rfl ?_
  refine W.iastore X9 hx hZ 126 3 e9 A (by decide) (by decide) (hb hby at_125) rfl ?_
  intro T10 h10 X10 e10 W10 A
  have K := K.other W10 ne_ar_aa
  have z10 : n0 ≤ h10.size := by rw [W10.size]; exact z9
  have A := own_set (x := 3) A
  obtain ⟨fa, hfa⟩ : ∃ z, z = (updN (updN (updN (updN (fun _ => 0) 0 0) 1 1) 2 2) 3 3) := ⟨_, rfl⟩
  rw [← hfa] at A
  have ha : ∀ j, fa j < 4 := by rw [hfa]; exact updN_lt (updN_lt (updN_lt (updN_lt (fun _ => Nat.zero_lt_succ _) (by decide)) (by decide)) (by decide)) (by decide)
  clear hfa
  refine W.astore X10 hx 128 #[.val (.int p1), .val (.int p2), .val (.int p3), .val (.int p4), .val (.int (Int32.ofNat (rr + 1))), .val (.ref ar), .val (.int (Int32.ofNat ix)), .val (.int (Int32.ofNat i0)), .val (.int (Int32.ofNat rs)), .val (.int (Int32.ofNat (1 + j1))), .val (.int (Int32.ofNat (2 + j2))), .val (.ref aa), .unset, .unset, .unset, .unset] (hb hby at_126) rfl rfl rfl ?_
  refine W.aload X10 hx 130 (hb hby at_128) rfl rfl rfl ?_
  refine W.iconst X10 hx 131 (0 : Int32) (hb hby at_130) rfl rfl ?_
  refine W.iaload X10 hx hZ 132 0 (.int (Int32.ofNat (fa 0))) e10 A (by decide) (by decide) rfl (hb hby at_131) rfl ?_
  refine W.istore X10 hx 134 #[.val (.int p1), .val (.int p2), .val (.int p3), .val (.int p4), .val (.int (Int32.ofNat (rr + 1))), .val (.ref ar), .val (.int (Int32.ofNat ix)), .val (.int (Int32.ofNat i0)), .val (.int (Int32.ofNat rs)), .val (.int (Int32.ofNat (1 + j1))), .val (.int (Int32.ofNat (2 + j2))), .val (.ref aa), .val (.int (Int32.ofNat (fa 0))), .unset, .unset, .unset] (hb hby at_132) rfl rfl ?_
  refine W.aload X10 hx 136 (hb hby at_134) rfl rfl rfl ?_
  refine W.iconst X10 hx 137 (0 : Int32) (hb hby at_136) rfl rfl ?_
  refine W.aload X10 hx 139 (hb hby at_137) rfl rfl rfl ?_
  refine W.iload X10 hx 141 (hb hby at_139) rfl rfl ?_
  refine W.iaload X10 hx hZ 142 i0 (.int (Int32.ofNat (fa i0))) e10 A (own_ofNat (by omega)) (by omega) rfl (hb hby at_141) rfl ?_
  refine W.iastore X10 hx hZ 143 0 e10 A (by decide) (by decide) (hb hby at_142) rfl ?_
  intro T11 h11 X11 e11 W11 A
  have K := K.other W11 ne_ar_aa
  have z11 : n0 ≤ h11.size := by rw [W11.size]; exact z10
  have A := own_set A
  refine W.aload X11 hx 145 (hb hby at_143) rfl rfl rfl ?_
  refine W.iload X11 hx 147 (hb hby at_145) rfl rfl ?_
  refine W.iload X11 hx 149 (hb hby at_147) rfl rfl ?_
  refine W.iastore X11 hx hZ 150 i0 e11 A (own_ofNat (by omega)) (by omega) (hb hby at_149) rfl ?_
  intro T12 h12 X12 e12 W12 A
  have K := K.other W12 ne_ar_aa
  have z12 : n0 ≤ h12.size := by rw [W12.size]; exact z11
  have A := own_set A
  obtain ⟨fb0, hf0⟩ : ∃ z, z = updN (updN fa 0 (fa i0)) i0 (fa 0) := ⟨_, rfl⟩
  rw [← hf0] at A
  have ha0 : ∀ j, fb0 j < 4 := by rw [hf0]; exact updN_lt (updN_lt ha (ha _)) (ha _)
  clear hf0
  refine W.aload X12 hx 152 (hb hby at_150) rfl rfl rfl ?_
  refine W.iconst X12 hx 153 (1 : Int32) (hb hby at_152) rfl rfl ?_
  refine W.iaload X12 hx hZ 154 1 (.int (Int32.ofNat (fb0 1))) e12 A (by decide) (by decide) rfl (hb hby at_153) rfl ?_
  refine W.istore X12 hx 156 #[.val (.int p1), .val (.int p2), .val (.int p3), .val (.int p4), .val (.int (Int32.ofNat (rr + 1))), .val (.ref ar), .val (.int (Int32.ofNat ix)), .val (.int (Int32.ofNat i0)), .val (.int (Int32.ofNat rs)), .val (.int (Int32.ofNat (1 + j1))), .val (.int (Int32.ofNat (2 + j2))), .val (.ref aa), .val (.int (Int32.ofNat (fb0 1))), .unset, .unset, .unset] (hb hby at_154) rfl rfl ?_
  refine W.aload X12 hx 158 (hb hby at_156) rfl rfl rfl ?_
  refine W.iconst X12 hx 159 (1 : Int32) (hb hby at_158) rfl rfl ?_
  refine W.aload X12 hx 161 (hb hby at_159) rfl rfl rfl ?_
  refine W.iload X12 hx 163 (hb hby at_161) rfl rfl ?_
  refine W.iaload X12 hx hZ 164 (1 + j1) (.int (Int32.ofNat (fb0 (1 + j1)))) e12 A (own_ofNat (by omega)) (by omega) rfl (hb hby at_163) rfl ?_
  refine W.iastore X12 hx hZ 165 1 e12 A (by decide) (by decide) (hb hby at_164) rfl ?_
  intro T13 h13 X13 e13 W13 A
  have K := K.other W13 ne_ar_aa
  have z13 : n0 ≤ h13.size := by rw [W13.size]; exact z12
  have A := own_set A
  refine W.aload X13 hx 167 (hb hby at_165) rfl rfl rfl ?_
  refine W.iload X13 hx 169 (hb hby at_167) rfl rfl ?_
  refine W.iload X13 hx 171 (hb hby at_169) rfl rfl ?_
  refine W.iastore X13 hx hZ 172 (1 + j1) e13 A (own_ofNat (by omega)) (by omega) (hb hby at_171) rfl ?_
  intro T14 h14 X14 e14 W14 A
  have K := K.other W14 ne_ar_aa
  have z14 : n0 ≤ h14.size := by rw [W14.size]; exact z13
  have A := own_set A
  obtain ⟨fb1, hf1⟩ : ∃ z, z = updN (updN fb0 1 (fb0 (1 + j1))) (1 + j1) (fb0 1) := ⟨_, rfl⟩
  rw [← hf1] at A
  have ha1 : ∀ j, fb1 j < 4 := by rw [hf1]; exact updN_lt (updN_lt ha0 (ha0 _)) (ha0 _)
  clear hf1
  refine W.aload X14 hx 174 (hb hby at_172) rfl rfl rfl ?_
  refine W.iconst X14 hx 175 (2 : Int32) (hb hby at_174) rfl rfl ?_
  refine W.iaload X14 hx hZ 176 2 (.int (Int32.ofNat (fb1 2))) e14 A (by decide) (by decide) rfl (hb hby at_175) rfl ?_
  refine W.istore X14 hx 178 #[.val (.int p1), .val (.int p2), .val (.int p3), .val (.int p4), .val (.int (Int32.ofNat (rr + 1))), .val (.ref ar), .val (.int (Int32.ofNat ix)), .val (.int (Int32.ofNat i0)), .val (.int (Int32.ofNat rs)), .val (.int (Int32.ofNat (1 + j1))), .val (.int (Int32.ofNat (2 + j2))), .val (.ref aa), .val (.int (Int32.ofNat (fb1 2))), .unset, .unset, .unset] (hb hby at_176) rfl rfl ?_
  refine W.aload X14 hx 180 (hb hby at_178) rfl rfl rfl ?_
  refine W.iconst X14 hx 181 (2 : Int32) (hb hby at_180) rfl rfl ?_
  refine W.aload X14 hx 183 (hb hby at_181) rfl rfl rfl ?_
  refine W.iload X14 hx 185 (hb hby at_183) rfl rfl ?_
  refine W.iaload X14 hx hZ 186 (2 + j2) (.int (Int32.ofNat (fb1 (2 + j2)))) e14 A (own_ofNat (by omega)) (by omega) rfl (hb hby at_185) rfl ?_
  refine W.iastore X14 hx hZ 187 2 e14 A (by decide) (by decide) (hb hby at_186) rfl ?_
  intro T15 h15 X15 e15 W15 A
  have K := K.other W15 ne_ar_aa
  have z15 : n0 ≤ h15.size := by rw [W15.size]; exact z14
  have A := own_set A
  refine W.aload X15 hx 189 (hb hby at_187) rfl rfl rfl ?_
  refine W.iload X15 hx 191 (hb hby at_189) rfl rfl ?_
  refine W.iload X15 hx 193 (hb hby at_191) rfl rfl ?_
  refine W.iastore X15 hx hZ 194 (2 + j2) e15 A (own_ofNat (by omega)) (by omega) (hb hby at_193) rfl ?_
  intro T16 h16 X16 e16 W16 A
  have K := K.other W16 ne_ar_aa
  have z16 : n0 ≤ h16.size := by rw [W16.size]; exact z15
  have A := own_set A
  obtain ⟨fb2, hf2⟩ : ∃ z, z = updN (updN fb1 2 (fb1 (2 + j2))) (2 + j2) (fb1 2) := ⟨_, rfl⟩
  rw [← hf2] at A
  have ha2 : ∀ j, fb2 j < 4 := by rw [hf2]; exact updN_lt (updN_lt ha1 (ha1 _)) (ha1 _)
  clear hf2
  refine W.iloadN X16 hx 195 (hb hby at_194) rfl rfl ?_
  refine W.bipush X16 hx 197 (7 : Int32) (hb hby at_195) rfl rfl ?_
  refine W.iand X16 hx 198 (hb hby at_197) rfl ?_
  refine W.iconst X16 hx 199 (5 : Int32) (hb hby at_198) rfl rfl ?_
  obtain ⟨ln, hln, eln⟩ := own_and p2 7 (by decide)
  refine W.irem X16 hx 200 (hb hby at_199) (by decide) rfl ?_
  obtain ⟨n, hn, en, -⟩ := own_rem (x := p2 &&& 7) (y := 5) (by omega) (by decide)
  have hn : n < 5 := by have e : (5 : Int32).toInt = 5 := rfl; omega
  have en := own_ieq en
  rw [en]
  refine W.istore X16 hx 202 #[.val (.int p1), .val (.int p2), .val (.int p3), .val (.int p4), .val (.int (Int32.ofNat (rr + 1))), .val (.ref ar), .val (.int (Int32.ofNat ix)), .val (.int (Int32.ofNat i0)), .val (.int (Int32.ofNat rs)), .val (.int (Int32.ofNat (1 + j1))), .val (.int (Int32.ofNat (2 + j2))), .val (.ref aa), .val (.int (Int32.ofNat (fb1 2))), .val (.int (Int32.ofNat n)), .unset, .unset] (hb hby at_200) rfl rfl ?_
  refine W.iload X16 hx 204 (hb hby at_202) rfl rfl ?_
  refine W.newarr X16 hx hZ 206 n 4 (hw _ (List.mem_of_getElem? (i := 0) rfl)) e16 (hb hby at_204) (own_ofNat (by omega)) (by omega) (by decide) (by decide) (by decide) rfl ?_
  intro T17 h17 ao q17 X17 e17 E17 O
  have ne_ar_ao : ar ≠ ao := fun q => by have := K.lt; rw [q, q17] at this; exact Nat.lt_irrefl _ this
  have ne_aa_ao : aa ≠ ao := fun q => by have := A.lt; rw [q, q17] at this; exact Nat.lt_irrefl _ this
  have ge_ao : n0 ≤ ao := by have := z16; omega
  have K := K.ext E17
  have A := A.ext E17
  have z17 : n0 ≤ h17.size := Nat.le_trans z16 E17.1
  have O : NAr Z h17 ao n (fun _ => 0) := O
  refine W.astore X17 hx 208 #[.val (.int p1), .val (.int p2), .val (.int p3), .val (.int p4), .val (.int (Int32.ofNat (rr + 1))), .val (.ref ar), .val (.int (Int32.ofNat ix)), .val (.int (Int32.ofNat i0)), .val (.int (Int32.ofNat rs)), .val (.int (Int32.ofNat (1 + j1))), .val (.int (Int32.ofNat (2 + j2))), .val (.ref aa), .val (.int (Int32.ofNat (fb1 2))), .val (.int (Int32.ofNat n)), .val (.ref ao), .unset] (hb hby at_206) rfl rfl rfl ?_
  refine W.iload X17 hx 210 (hb hby at_208) rfl rfl ?_
  have hcase : n = 0 ∨ n = 1 ∨ n = 2 ∨ n = 3 ∨ n = 4 := by omega
  clear en
  rcases hcase with rfl | rfl | rfl | rfl | rfl
  · skip
    refine W.ifLe X17 hx 221 213 (hb hby at_210) (by decide) (by decide) rfl (fun q => ?_) (fun q => ?_)
    · skip
      refine W.iload X17 hx 223 (hb hby at_221) rfl rfl ?_
      refine W.iconst X17 hx 224 (1 : Int32) (hb hby at_223) rfl rfl ?_
      refine W.icmpLe X17 hx 235 227 (hb hby at_224) (by decide) (by decide) rfl (fun q => ?_) (fun q => ?_)
      · skip
        refine W.iload X17 hx 237 (hb hby at_235) rfl rfl ?_
        refine W.iconst X17 hx 238 (2 : Int32) (hb hby at_237) rfl rfl ?_
        refine W.icmpLe X17 hx 249 241 (hb hby at_238) (by decide) (by decide) rfl (fun q => ?_) (fun q => ?_)
        · skip
          refine W.iload X17 hx 251 (hb hby at_249) rfl rfl ?_
          refine W.iconst X17 hx 252 (3 : Int32) (hb hby at_251) rfl rfl ?_
          refine W.icmpLe X17 hx 263 255 (hb hby at_252) (by decide) (by decide) rfl (fun q => ?_) (fun q => ?_)
          · skip
            refine W.aload X17 hx 265 (hb hby at_263) rfl rfl rfl ?_
            refine W.aload X17 hx 267 (hb hby at_265) rfl rfl rfl ?_
            refine W.iload X17 hx 269 (hb hby at_267) rfl rfl ?_
            obtain ⟨o, hoo⟩ : ∃ z, z = (fun _ => 0) := ⟨_, rfl⟩
            rw [← hoo] at O
            have ho : ∀ j, o j < 4 := by rw [hoo]; exact (fun _ => Nat.zero_lt_succ _)
            clear hoo
            obtain ⟨rk, hrk⟩ : ∃ z, z = (updN (updN (updN (updN (fun _ => 0) 0 r0) 1 r1) 2 r2) 3 r3) := ⟨_, rfl⟩
            rw [← hrk] at K
            have hr : ∀ j, rk j < rr + 1 := by rw [hrk]; exact (updN_lt (updN_lt (updN_lt (updN_lt (fun _ => Nat.succ_pos _) hr0) hr1) hr2) hr3)
            clear hrk
            have hr8 : ∀ j, rk j < 8 := fun j => Nat.lt_of_lt_of_le (hr j) (by omega)
            refine W.callS X17 hx hZ 272 0 [(.ref ao), (.ref ar), (.int (Int32.ofNat (rr + 1)))] hown (hw _ (List.mem_of_getElem? (i := 2) rfl)) (hw _ (List.mem_of_getElem? (i := 3) rfl)) (hw _ (List.mem_of_getElem? (i := 4) rfl)) (hw _ (List.mem_of_getElem? (i := 5) rfl)) (by decide) pd_2 rfl e17 (rmbr l Z a0 hw ao ar 0 (rr + 1) o rk h17 n0 z17 O K ho hr (by decide) (by omega)) (hb hby at_269) (by rw [hml]; rfl) rfl rfl (by decide) (by decide) (by decide) (by decide) rfl ?_
            rintro v18 T18 L18 X18 ⟨t, rfl, N18, K18, G, S, hG⟩
            have O := O.keep K18 nin0
            have K := K.keep K18 nin0
            refine W.astore X18 hx 274 #[.val (.int p1), .val (.int p2), .val (.int p3), .val (.int p4), .val (.int (Int32.ofNat (rr + 1))), .val (.ref ar), .val (.int (Int32.ofNat ix)), .val (.int (Int32.ofNat i0)), .val (.int (Int32.ofNat rs)), .val (.int (Int32.ofNat (1 + j1))), .val (.int (Int32.ofNat (2 + j2))), .val (.ref aa), .val (.int (Int32.ofNat (fb1 2))), .val (.int (Int32.ofNat 0)), .val (.ref ao), .val (.ref t)] (hb hby at_272) rfl rfl rfl ?_
            refine W.aload X18 hx 276 (hb hby at_274) rfl rfl rfl ?_
            refine W.nullR X18 hx 279 (hb hby at_276) rfl ?_
            refine W.aload X18 hx 281 (hb hby at_279) rfl rfl rfl ?_
            refine W.arrlen X18 hx hZ 282 rfl S (Int32.ofNat 0) rfl (hb hby at_281) rfl ?_
            refine W.iload X18 hx 284 (hb hby at_282) rfl rfl ?_
            refine W.icmpEq X18 hx 289 287 (hb hby at_284) (by decide) (by decide) rfl (fun q => ?_) (fun q => ?_)
            · skip
              refine W.aload X18 hx 291 (hb hby at_289) rfl rfl rfl ?_
              refine W.aload X18 hx 293 (hb hby at_291) rfl rfl rfl ?_
              refine W.aload X18 hx 295 (hb hby at_293) rfl rfl rfl ?_
              refine W.iload X18 hx 297 (hb hby at_295) rfl rfl ?_
              refine W.iconst X18 hx 298 (0 : Int32) (hb hby at_297) rfl rfl ?_
              refine W.callS X18 hx hZ 301 0 [(.ref t), (.ref ao), (.ref ar), (.int (Int32.ofNat 0)), (.int (0 : Int32))] hown (hw _ (List.mem_of_getElem? (i := 6) rfl)) (hw _ (List.mem_of_getElem? (i := 7) rfl)) (hw _ (List.mem_of_getElem? (i := 8) rfl)) (hw _ (List.mem_of_getElem? (i := 9) rfl)) (by decide) pd_3 rfl rfl (rm2 l Z a0 hw t ao ar 0 0 o rk G T18.heap O K ho hr8 (by decide) S hG (by decide)) (hb hby at_298) (by rw [hml]; rfl) rfl rfl (by decide) (by decide) (by decide) (by decide) rfl ?_
              rintro v19 T19 L19 X19 ⟨rfl, e19, rfl⟩
              refine W.ifEq X19 hx 353 304 (hb hby at_301) (by decide) (by decide) rfl (fun q => ?_) (fun q => ?_)
              · exact absurd q (by decide)
              · skip
                refine W.aload X19 hx 306 (hb hby at_304) rfl rfl rfl ?_
                refine W.aload X19 hx 308 (hb hby at_306) rfl rfl rfl ?_
                refine W.aload X19 hx 310 (hb hby at_308) rfl rfl rfl ?_
                refine W.iload X19 hx 312 (hb hby at_310) rfl rfl ?_
                refine W.iconst X19 hx 313 (1 : Int32) (hb hby at_312) rfl rfl ?_
                refine W.callS X19 hx hZ 316 0 [(.ref t), (.ref ao), (.ref ar), (.int (Int32.ofNat 0)), (.int (1 : Int32))] hown (hw _ (List.mem_of_getElem? (i := 6) rfl)) (hw _ (List.mem_of_getElem? (i := 7) rfl)) (hw _ (List.mem_of_getElem? (i := 8) rfl)) (hw _ (List.mem_of_getElem? (i := 9) rfl)) (by decide) pd_3 rfl e19 (rm2 l Z a0 hw t ao ar 0 1 o rk G T18.heap O K ho hr8 (by decide) S hG (by decide)) (hb hby at_313) (by rw [hml]; rfl) rfl rfl (by decide) (by decide) (by decide) (by decide) rfl ?_
                rintro v20 T20 L20 X20 ⟨rfl, e20, rfl⟩
                refine W.ifEq X20 hx 353 319 (hb hby at_316) (by decide) (by decide) rfl (fun q => ?_) (fun q => ?_)
                · exact absurd q (by decide)
                · skip
                  refine W.aload X20 hx 321 (hb hby at_319) rfl rfl rfl ?_
                  refine W.aload X20 hx 323 (hb hby at_321) rfl rfl rfl ?_
                  refine W.aload X20 hx 325 (hb hby at_323) rfl rfl rfl ?_
                  refine W.iload X20 hx 327 (hb hby at_325) rfl rfl ?_
                  refine W.iconst X20 hx 328 (2 : Int32) (hb hby at_327) rfl rfl ?_
                  refine W.callS X20 hx hZ 331 0 [(.ref t), (.ref ao), (.ref ar), (.int (Int32.ofNat 0)), (.int (2 : Int32))] hown (hw _ (List.mem_of_getElem? (i := 6) rfl)) (hw _ (List.mem_of_getElem? (i := 7) rfl)) (hw _ (List.mem_of_getElem? (i := 8) rfl)) (hw _ (List.mem_of_getElem? (i := 9) rfl)) (by decide) pd_3 rfl e20 (rm2 l Z a0 hw t ao ar 0 2 o rk G T18.heap O K ho hr8 (by decide) S hG (by decide)) (hb hby at_328) (by rw [hml]; rfl) rfl rfl (by decide) (by decide) (by decide) (by decide) rfl ?_
                  rintro v21 T21 L21 X21 ⟨rfl, e21, rfl⟩
                  refine W.ifEq X21 hx 353 334 (hb hby at_331) (by decide) (by decide) rfl (fun q => ?_) (fun q => ?_)
                  · exact absurd q (by decide)
                  · skip
                    refine W.aload X21 hx 336 (hb hby at_334) rfl rfl rfl ?_
                    refine W.aload X21 hx 338 (hb hby at_336) rfl rfl rfl ?_
                    refine W.aload X21 hx 340 (hb hby at_338) rfl rfl rfl ?_
                    refine W.iload X21 hx 342 (hb hby at_340) rfl rfl ?_
                    refine W.iconst X21 hx 343 (3 : Int32) (hb hby at_342) rfl rfl ?_
                    refine W.callS X21 hx hZ 346 0 [(.ref t), (.ref ao), (.ref ar), (.int (Int32.ofNat 0)), (.int (3 : Int32))] hown (hw _ (List.mem_of_getElem? (i := 6) rfl)) (hw _ (List.mem_of_getElem? (i := 7) rfl)) (hw _ (List.mem_of_getElem? (i := 8) rfl)) (hw _ (List.mem_of_getElem? (i := 9) rfl)) (by decide) pd_3 rfl e21 (rm2 l Z a0 hw t ao ar 0 3 o rk G T18.heap O K ho hr8 (by decide) S hG (by decide)) (hb hby at_343) (by rw [hml]; rfl) rfl rfl (by decide) (by decide) (by decide) (by decide) rfl ?_
                    rintro v22 T22 L22 X22 ⟨rfl, e22, rfl⟩
                    refine W.ifEq X22 hx 353 349 (hb hby at_346) (by decide) (by decide) rfl (fun q => ?_) (fun q => ?_)
                    · exact absurd q (by decide)
                    · skip
                      refine W.iconst X22 hx 350 (1 : Int32) (hb hby at_349) rfl rfl ?_
                      refine W.goto X22 hx 354 (hb hby at_350) (by decide) (by decide) ?_
                      refine W.nret X22 hx hlk (t := .boolean) hret (by simp) (hb hby at_354) (by decide) (by decide) ?_
                      exact ⟨rfl, (Fr.app (Fr.app (Fr.app (Fr.app (Fr.app (Fr.app (Fr.app (Fr.app (Fr.app (Fr.app (Fr.app (Fr.app (Fr.app (Fr.app (Fr.app (Fr.app (Fr.app (Fr.app (Fr.app (Fr.nil _) (fr1 ge_ar)) (fr1 ge_ar)) (fr1 ge_ar)) (fr1 ge_ar)) (fr1 ge_aa)) (fr1 ge_aa)) (fr1 ge_aa)) (fr1 ge_aa)) (fr1 ge_aa)) (fr1 ge_aa)) (fr1 ge_aa)) (fr1 ge_aa)) (fr1 ge_aa)) (fr1 ge_aa)) N18) (Fr.nil _)) (Fr.nil _)) (Fr.nil _)) (Fr.nil _))⟩
            · exact absurd rfl q
          · exact absurd q (by decide)
        · exact absurd q (by decide)
      · exact absurd q (by decide)
    · exact absurd q (by decide)
  · skip
    refine W.ifLe X17 hx 221 213 (hb hby at_210) (by decide) (by decide) rfl (fun q => ?_) (fun q => ?_)
    · exact absurd (by decide) q
    · skip
      refine W.aload X17 hx 215 (hb hby at_213) rfl rfl rfl ?_
      refine W.iconst X17 hx 216 (0 : Int32) (hb hby at_215) rfl rfl ?_
      refine W.aload X17 hx 218 (hb hby at_216) rfl rfl rfl ?_
      refine W.iconst X17 hx 219 (0 : Int32) (hb hby at_218) rfl rfl ?_
      refine W.iaload X17 hx hZ 220 0 (.int (Int32.ofNat (fb2 0))) e17 A (by decide) (by decide) rfl (hb hby at_219) rfl ?_
      refine W.iastore X17 hx hZ 221 0 e17 O (by decide) (by decide) (hb hby at_220) rfl ?_
      intro T23 h23 X23 e23 W23 O
      have K := K.other W23 ne_ar_ao
      have A := A.other W23 ne_aa_ao
      have z23 : n0 ≤ h23.size := by rw [W23.size]; exact z17
      have O := own_set O
      refine W.iload X23 hx 223 (hb hby at_221) rfl rfl ?_
      refine W.iconst X23 hx 224 (1 : Int32) (hb hby at_223) rfl rfl ?_
      refine W.icmpLe X23 hx 235 227 (hb hby at_224) (by decide) (by decide) rfl (fun q => ?_) (fun q => ?_)
      · skip
        refine W.iload X23 hx 237 (hb hby at_235) rfl rfl ?_
        refine W.iconst X23 hx 238 (2 : Int32) (hb hby at_237) rfl rfl ?_
        refine W.icmpLe X23 hx 249 241 (hb hby at_238) (by decide) (by decide) rfl (fun q => ?_) (fun q => ?_)
        · skip
          refine W.iload X23 hx 251 (hb hby at_249) rfl rfl ?_
          refine W.iconst X23 hx 252 (3 : Int32) (hb hby at_251) rfl rfl ?_
          refine W.icmpLe X23 hx 263 255 (hb hby at_252) (by decide) (by decide) rfl (fun q => ?_) (fun q => ?_)
          · skip
            refine W.aload X23 hx 265 (hb hby at_263) rfl rfl rfl ?_
            refine W.aload X23 hx 267 (hb hby at_265) rfl rfl rfl ?_
            refine W.iload X23 hx 269 (hb hby at_267) rfl rfl ?_
            obtain ⟨o, hoo⟩ : ∃ z, z = (updN (fun _ => 0) 0 (fb2 0)) := ⟨_, rfl⟩
            rw [← hoo] at O
            have ho : ∀ j, o j < 4 := by rw [hoo]; exact (updN_lt (fun _ => Nat.zero_lt_succ _) (ha2 _))
            clear hoo
            obtain ⟨rk, hrk⟩ : ∃ z, z = (updN (updN (updN (updN (fun _ => 0) 0 r0) 1 r1) 2 r2) 3 r3) := ⟨_, rfl⟩
            rw [← hrk] at K
            have hr : ∀ j, rk j < rr + 1 := by rw [hrk]; exact (updN_lt (updN_lt (updN_lt (updN_lt (fun _ => Nat.succ_pos _) hr0) hr1) hr2) hr3)
            clear hrk
            have hr8 : ∀ j, rk j < 8 := fun j => Nat.lt_of_lt_of_le (hr j) (by omega)
            refine W.callS X23 hx hZ 272 0 [(.ref ao), (.ref ar), (.int (Int32.ofNat (rr + 1)))] hown (hw _ (List.mem_of_getElem? (i := 2) rfl)) (hw _ (List.mem_of_getElem? (i := 3) rfl)) (hw _ (List.mem_of_getElem? (i := 4) rfl)) (hw _ (List.mem_of_getElem? (i := 5) rfl)) (by decide) pd_2 rfl e23 (rmbr l Z a0 hw ao ar 1 (rr + 1) o rk h23 n0 z23 O K ho hr (by decide) (by omega)) (hb hby at_269) (by rw [hml]; rfl) rfl rfl (by decide) (by decide) (by decide) (by decide) rfl ?_
            rintro v24 T24 L24 X24 ⟨t, rfl, N24, K24, G, S, hG⟩
            have O := O.keep K24 nin0
            have K := K.keep K24 nin0
            refine W.astore X24 hx 274 #[.val (.int p1), .val (.int p2), .val (.int p3), .val (.int p4), .val (.int (Int32.ofNat (rr + 1))), .val (.ref ar), .val (.int (Int32.ofNat ix)), .val (.int (Int32.ofNat i0)), .val (.int (Int32.ofNat rs)), .val (.int (Int32.ofNat (1 + j1))), .val (.int (Int32.ofNat (2 + j2))), .val (.ref aa), .val (.int (Int32.ofNat (fb1 2))), .val (.int (Int32.ofNat 1)), .val (.ref ao), .val (.ref t)] (hb hby at_272) rfl rfl rfl ?_
            refine W.aload X24 hx 276 (hb hby at_274) rfl rfl rfl ?_
            refine W.nullR X24 hx 279 (hb hby at_276) rfl ?_
            refine W.aload X24 hx 281 (hb hby at_279) rfl rfl rfl ?_
            refine W.arrlen X24 hx hZ 282 rfl S (Int32.ofNat 1) rfl (hb hby at_281) rfl ?_
            refine W.iload X24 hx 284 (hb hby at_282) rfl rfl ?_
            refine W.icmpEq X24 hx 289 287 (hb hby at_284) (by decide) (by decide) rfl (fun q => ?_) (fun q => ?_)
            · skip
              refine W.aload X24 hx 291 (hb hby at_289) rfl rfl rfl ?_
              refine W.aload X24 hx 293 (hb hby at_291) rfl rfl rfl ?_
              refine W.aload X24 hx 295 (hb hby at_293) rfl rfl rfl ?_
              refine W.iload X24 hx 297 (hb hby at_295) rfl rfl ?_
              refine W.iconst X24 hx 298 (0 : Int32) (hb hby at_297) rfl rfl ?_
              refine W.callS X24 hx hZ 301 0 [(.ref t), (.ref ao), (.ref ar), (.int (Int32.ofNat 1)), (.int (0 : Int32))] hown (hw _ (List.mem_of_getElem? (i := 6) rfl)) (hw _ (List.mem_of_getElem? (i := 7) rfl)) (hw _ (List.mem_of_getElem? (i := 8) rfl)) (hw _ (List.mem_of_getElem? (i := 9) rfl)) (by decide) pd_3 rfl rfl (rm2 l Z a0 hw t ao ar 1 0 o rk G T24.heap O K ho hr8 (by decide) S hG (by decide)) (hb hby at_298) (by rw [hml]; rfl) rfl rfl (by decide) (by decide) (by decide) (by decide) rfl ?_
              rintro v25 T25 L25 X25 ⟨rfl, e25, rfl⟩
              refine W.ifEq X25 hx 353 304 (hb hby at_301) (by decide) (by decide) rfl (fun q => ?_) (fun q => ?_)
              · exact absurd q (by decide)
              · skip
                refine W.aload X25 hx 306 (hb hby at_304) rfl rfl rfl ?_
                refine W.aload X25 hx 308 (hb hby at_306) rfl rfl rfl ?_
                refine W.aload X25 hx 310 (hb hby at_308) rfl rfl rfl ?_
                refine W.iload X25 hx 312 (hb hby at_310) rfl rfl ?_
                refine W.iconst X25 hx 313 (1 : Int32) (hb hby at_312) rfl rfl ?_
                refine W.callS X25 hx hZ 316 0 [(.ref t), (.ref ao), (.ref ar), (.int (Int32.ofNat 1)), (.int (1 : Int32))] hown (hw _ (List.mem_of_getElem? (i := 6) rfl)) (hw _ (List.mem_of_getElem? (i := 7) rfl)) (hw _ (List.mem_of_getElem? (i := 8) rfl)) (hw _ (List.mem_of_getElem? (i := 9) rfl)) (by decide) pd_3 rfl e25 (rm2 l Z a0 hw t ao ar 1 1 o rk G T24.heap O K ho hr8 (by decide) S hG (by decide)) (hb hby at_313) (by rw [hml]; rfl) rfl rfl (by decide) (by decide) (by decide) (by decide) rfl ?_
                rintro v26 T26 L26 X26 ⟨rfl, e26, rfl⟩
                refine W.ifEq X26 hx 353 319 (hb hby at_316) (by decide) (by decide) rfl (fun q => ?_) (fun q => ?_)
                · exact absurd q (by decide)
                · skip
                  refine W.aload X26 hx 321 (hb hby at_319) rfl rfl rfl ?_
                  refine W.aload X26 hx 323 (hb hby at_321) rfl rfl rfl ?_
                  refine W.aload X26 hx 325 (hb hby at_323) rfl rfl rfl ?_
                  refine W.iload X26 hx 327 (hb hby at_325) rfl rfl ?_
                  refine W.iconst X26 hx 328 (2 : Int32) (hb hby at_327) rfl rfl ?_
                  refine W.callS X26 hx hZ 331 0 [(.ref t), (.ref ao), (.ref ar), (.int (Int32.ofNat 1)), (.int (2 : Int32))] hown (hw _ (List.mem_of_getElem? (i := 6) rfl)) (hw _ (List.mem_of_getElem? (i := 7) rfl)) (hw _ (List.mem_of_getElem? (i := 8) rfl)) (hw _ (List.mem_of_getElem? (i := 9) rfl)) (by decide) pd_3 rfl e26 (rm2 l Z a0 hw t ao ar 1 2 o rk G T24.heap O K ho hr8 (by decide) S hG (by decide)) (hb hby at_328) (by rw [hml]; rfl) rfl rfl (by decide) (by decide) (by decide) (by decide) rfl ?_
                  rintro v27 T27 L27 X27 ⟨rfl, e27, rfl⟩
                  refine W.ifEq X27 hx 353 334 (hb hby at_331) (by decide) (by decide) rfl (fun q => ?_) (fun q => ?_)
                  · exact absurd q (by decide)
                  · skip
                    refine W.aload X27 hx 336 (hb hby at_334) rfl rfl rfl ?_
                    refine W.aload X27 hx 338 (hb hby at_336) rfl rfl rfl ?_
                    refine W.aload X27 hx 340 (hb hby at_338) rfl rfl rfl ?_
                    refine W.iload X27 hx 342 (hb hby at_340) rfl rfl ?_
                    refine W.iconst X27 hx 343 (3 : Int32) (hb hby at_342) rfl rfl ?_
                    refine W.callS X27 hx hZ 346 0 [(.ref t), (.ref ao), (.ref ar), (.int (Int32.ofNat 1)), (.int (3 : Int32))] hown (hw _ (List.mem_of_getElem? (i := 6) rfl)) (hw _ (List.mem_of_getElem? (i := 7) rfl)) (hw _ (List.mem_of_getElem? (i := 8) rfl)) (hw _ (List.mem_of_getElem? (i := 9) rfl)) (by decide) pd_3 rfl e27 (rm2 l Z a0 hw t ao ar 1 3 o rk G T24.heap O K ho hr8 (by decide) S hG (by decide)) (hb hby at_343) (by rw [hml]; rfl) rfl rfl (by decide) (by decide) (by decide) (by decide) rfl ?_
                    rintro v28 T28 L28 X28 ⟨rfl, e28, rfl⟩
                    refine W.ifEq X28 hx 353 349 (hb hby at_346) (by decide) (by decide) rfl (fun q => ?_) (fun q => ?_)
                    · exact absurd q (by decide)
                    · skip
                      refine W.iconst X28 hx 350 (1 : Int32) (hb hby at_349) rfl rfl ?_
                      refine W.goto X28 hx 354 (hb hby at_350) (by decide) (by decide) ?_
                      refine W.nret X28 hx hlk (t := .boolean) hret (by simp) (hb hby at_354) (by decide) (by decide) ?_
                      exact ⟨rfl, (Fr.app (Fr.app (Fr.app (Fr.app (Fr.app (Fr.app (Fr.app (Fr.app (Fr.app (Fr.app (Fr.app (Fr.app (Fr.app (Fr.app (Fr.app (Fr.app (Fr.app (Fr.app (Fr.app (Fr.app (Fr.nil _) (fr1 ge_ar)) (fr1 ge_ar)) (fr1 ge_ar)) (fr1 ge_ar)) (fr1 ge_aa)) (fr1 ge_aa)) (fr1 ge_aa)) (fr1 ge_aa)) (fr1 ge_aa)) (fr1 ge_aa)) (fr1 ge_aa)) (fr1 ge_aa)) (fr1 ge_aa)) (fr1 ge_aa)) (fr1 ge_ao)) N24) (Fr.nil _)) (Fr.nil _)) (Fr.nil _)) (Fr.nil _))⟩
            · exact absurd rfl q
          · exact absurd q (by decide)
        · exact absurd q (by decide)
      · exact absurd q (by decide)
  · skip
    refine W.ifLe X17 hx 221 213 (hb hby at_210) (by decide) (by decide) rfl (fun q => ?_) (fun q => ?_)
    · exact absurd (by decide) q
    · skip
      refine W.aload X17 hx 215 (hb hby at_213) rfl rfl rfl ?_
      refine W.iconst X17 hx 216 (0 : Int32) (hb hby at_215) rfl rfl ?_
      refine W.aload X17 hx 218 (hb hby at_216) rfl rfl rfl ?_
      refine W.iconst X17 hx 219 (0 : Int32) (hb hby at_218) rfl rfl ?_
      refine W.iaload X17 hx hZ 220 0 (.int (Int32.ofNat (fb2 0))) e17 A (by decide) (by decide) rfl (hb hby at_219) rfl ?_
      refine W.iastore X17 hx hZ 221 0 e17 O (by decide) (by decide) (hb hby at_220) rfl ?_
      intro T29 h29 X29 e29 W29 O
      have K := K.other W29 ne_ar_ao
      have A := A.other W29 ne_aa_ao
      have z29 : n0 ≤ h29.size := by rw [W29.size]; exact z17
      have O := own_set O
      refine W.iload X29 hx 223 (hb hby at_221) rfl rfl ?_
      refine W.iconst X29 hx 224 (1 : Int32) (hb hby at_223) rfl rfl ?_
      refine W.icmpLe X29 hx 235 227 (hb hby at_224) (by decide) (by decide) rfl (fun q => ?_) (fun q => ?_)
      · exact absurd (by decide) q
      · skip
        refine W.aload X29 hx 229 (hb hby at_227) rfl rfl rfl ?_
        refine W.iconst X29 hx 230 (1 : Int32) (hb hby at_229) rfl rfl ?_
        refine W.aload X29 hx 232 (hb hby at_230) rfl rfl rfl ?_
        refine W.iconst X29 hx 233 (1 : Int32) (hb hby at_232) rfl rfl ?_
        refine W.iaload X29 hx hZ 234 1 (.int (Int32.ofNat (fb2 1))) e29 A (by decide) (by decide) rfl (hb hby at_233) rfl ?_
        refine W.iastore X29 hx hZ 235 1 e29 O (by decide) (by decide) (hb hby at_234) rfl ?_
        intro T30 h30 X30 e30 W30 O
        have K := K.other W30 ne_ar_ao
        have A := A.other W30 ne_aa_ao
        have z30 : n0 ≤ h30.size := by rw [W30.size]; exact z29
        have O := own_set O
        refine W.iload X30 hx 237 (hb hby at_235) rfl rfl ?_
        refine W.iconst X30 hx 238 (2 : Int32) (hb hby at_237) rfl rfl ?_
        refine W.icmpLe X30 hx 249 241 (hb hby at_238) (by decide) (by decide) rfl (fun q => ?_) (fun q => ?_)
        · skip
          refine W.iload X30 hx 251 (hb hby at_249) rfl rfl ?_
          refine W.iconst X30 hx 252 (3 : Int32) (hb hby at_251) rfl rfl ?_
          refine W.icmpLe X30 hx 263 255 (hb hby at_252) (by decide) (by decide) rfl (fun q => ?_) (fun q => ?_)
          · skip
            refine W.aload X30 hx 265 (hb hby at_263) rfl rfl rfl ?_
            refine W.aload X30 hx 267 (hb hby at_265) rfl rfl rfl ?_
            refine W.iload X30 hx 269 (hb hby at_267) rfl rfl ?_
            obtain ⟨o, hoo⟩ : ∃ z, z = (updN (updN (fun _ => 0) 0 (fb2 0)) 1 (fb2 1)) := ⟨_, rfl⟩
            rw [← hoo] at O
            have ho : ∀ j, o j < 4 := by rw [hoo]; exact (updN_lt (updN_lt (fun _ => Nat.zero_lt_succ _) (ha2 _)) (ha2 _))
            clear hoo
            obtain ⟨rk, hrk⟩ : ∃ z, z = (updN (updN (updN (updN (fun _ => 0) 0 r0) 1 r1) 2 r2) 3 r3) := ⟨_, rfl⟩
            rw [← hrk] at K
            have hr : ∀ j, rk j < rr + 1 := by rw [hrk]; exact (updN_lt (updN_lt (updN_lt (updN_lt (fun _ => Nat.succ_pos _) hr0) hr1) hr2) hr3)
            clear hrk
            have hr8 : ∀ j, rk j < 8 := fun j => Nat.lt_of_lt_of_le (hr j) (by omega)
            refine W.callS X30 hx hZ 272 0 [(.ref ao), (.ref ar), (.int (Int32.ofNat (rr + 1)))] hown (hw _ (List.mem_of_getElem? (i := 2) rfl)) (hw _ (List.mem_of_getElem? (i := 3) rfl)) (hw _ (List.mem_of_getElem? (i := 4) rfl)) (hw _ (List.mem_of_getElem? (i := 5) rfl)) (by decide) pd_2 rfl e30 (rmbr l Z a0 hw ao ar 2 (rr + 1) o rk h30 n0 z30 O K ho hr (by decide) (by omega)) (hb hby at_269) (by rw [hml]; rfl) rfl rfl (by decide) (by decide) (by decide) (by decide) rfl ?_
            rintro v31 T31 L31 X31 ⟨t, rfl, N31, K31, G, S, hG⟩
            have O := O.keep K31 nin0
            have K := K.keep K31 nin0
            refine W.astore X31 hx 274 #[.val (.int p1), .val (.int p2), .val (.int p3), .val (.int p4), .val (.int (Int32.ofNat (rr + 1))), .val (.ref ar), .val (.int (Int32.ofNat ix)), .val (.int (Int32.ofNat i0)), .val (.int (Int32.ofNat rs)), .val (.int (Int32.ofNat (1 + j1))), .val (.int (Int32.ofNat (2 + j2))), .val (.ref aa), .val (.int (Int32.ofNat (fb1 2))), .val (.int (Int32.ofNat 2)), .val (.ref ao), .val (.ref t)] (hb hby at_272) rfl rfl rfl ?_
            refine W.aload X31 hx 276 (hb hby at_274) rfl rfl rfl ?_
            refine W.nullR X31 hx 279 (hb hby at_276) rfl ?_
            refine W.aload X31 hx 281 (hb hby at_279) rfl rfl rfl ?_
            refine W.arrlen X31 hx hZ 282 rfl S (Int32.ofNat 2) rfl (hb hby at_281) rfl ?_
            refine W.iload X31 hx 284 (hb hby at_282) rfl rfl ?_
            refine W.icmpEq X31 hx 289 287 (hb hby at_284) (by decide) (by decide) rfl (fun q => ?_) (fun q => ?_)
            · skip
              refine W.aload X31 hx 291 (hb hby at_289) rfl rfl rfl ?_
              refine W.aload X31 hx 293 (hb hby at_291) rfl rfl rfl ?_
              refine W.aload X31 hx 295 (hb hby at_293) rfl rfl rfl ?_
              refine W.iload X31 hx 297 (hb hby at_295) rfl rfl ?_
              refine W.iconst X31 hx 298 (0 : Int32) (hb hby at_297) rfl rfl ?_
              refine W.callS X31 hx hZ 301 0 [(.ref t), (.ref ao), (.ref ar), (.int (Int32.ofNat 2)), (.int (0 : Int32))] hown (hw _ (List.mem_of_getElem? (i := 6) rfl)) (hw _ (List.mem_of_getElem? (i := 7) rfl)) (hw _ (List.mem_of_getElem? (i := 8) rfl)) (hw _ (List.mem_of_getElem? (i := 9) rfl)) (by decide) pd_3 rfl rfl (rm2 l Z a0 hw t ao ar 2 0 o rk G T31.heap O K ho hr8 (by decide) S hG (by decide)) (hb hby at_298) (by rw [hml]; rfl) rfl rfl (by decide) (by decide) (by decide) (by decide) rfl ?_
              rintro v32 T32 L32 X32 ⟨rfl, e32, rfl⟩
              refine W.ifEq X32 hx 353 304 (hb hby at_301) (by decide) (by decide) rfl (fun q => ?_) (fun q => ?_)
              · exact absurd q (by decide)
              · skip
                refine W.aload X32 hx 306 (hb hby at_304) rfl rfl rfl ?_
                refine W.aload X32 hx 308 (hb hby at_306) rfl rfl rfl ?_
                refine W.aload X32 hx 310 (hb hby at_308) rfl rfl rfl ?_
                refine W.iload X32 hx 312 (hb hby at_310) rfl rfl ?_
                refine W.iconst X32 hx 313 (1 : Int32) (hb hby at_312) rfl rfl ?_
                refine W.callS X32 hx hZ 316 0 [(.ref t), (.ref ao), (.ref ar), (.int (Int32.ofNat 2)), (.int (1 : Int32))] hown (hw _ (List.mem_of_getElem? (i := 6) rfl)) (hw _ (List.mem_of_getElem? (i := 7) rfl)) (hw _ (List.mem_of_getElem? (i := 8) rfl)) (hw _ (List.mem_of_getElem? (i := 9) rfl)) (by decide) pd_3 rfl e32 (rm2 l Z a0 hw t ao ar 2 1 o rk G T31.heap O K ho hr8 (by decide) S hG (by decide)) (hb hby at_313) (by rw [hml]; rfl) rfl rfl (by decide) (by decide) (by decide) (by decide) rfl ?_
                rintro v33 T33 L33 X33 ⟨rfl, e33, rfl⟩
                refine W.ifEq X33 hx 353 319 (hb hby at_316) (by decide) (by decide) rfl (fun q => ?_) (fun q => ?_)
                · exact absurd q (by decide)
                · skip
                  refine W.aload X33 hx 321 (hb hby at_319) rfl rfl rfl ?_
                  refine W.aload X33 hx 323 (hb hby at_321) rfl rfl rfl ?_
                  refine W.aload X33 hx 325 (hb hby at_323) rfl rfl rfl ?_
                  refine W.iload X33 hx 327 (hb hby at_325) rfl rfl ?_
                  refine W.iconst X33 hx 328 (2 : Int32) (hb hby at_327) rfl rfl ?_
                  refine W.callS X33 hx hZ 331 0 [(.ref t), (.ref ao), (.ref ar), (.int (Int32.ofNat 2)), (.int (2 : Int32))] hown (hw _ (List.mem_of_getElem? (i := 6) rfl)) (hw _ (List.mem_of_getElem? (i := 7) rfl)) (hw _ (List.mem_of_getElem? (i := 8) rfl)) (hw _ (List.mem_of_getElem? (i := 9) rfl)) (by decide) pd_3 rfl e33 (rm2 l Z a0 hw t ao ar 2 2 o rk G T31.heap O K ho hr8 (by decide) S hG (by decide)) (hb hby at_328) (by rw [hml]; rfl) rfl rfl (by decide) (by decide) (by decide) (by decide) rfl ?_
                  rintro v34 T34 L34 X34 ⟨rfl, e34, rfl⟩
                  refine W.ifEq X34 hx 353 334 (hb hby at_331) (by decide) (by decide) rfl (fun q => ?_) (fun q => ?_)
                  · exact absurd q (by decide)
                  · skip
                    refine W.aload X34 hx 336 (hb hby at_334) rfl rfl rfl ?_
                    refine W.aload X34 hx 338 (hb hby at_336) rfl rfl rfl ?_
                    refine W.aload X34 hx 340 (hb hby at_338) rfl rfl rfl ?_
                    refine W.iload X34 hx 342 (hb hby at_340) rfl rfl ?_
                    refine W.iconst X34 hx 343 (3 : Int32) (hb hby at_342) rfl rfl ?_
                    refine W.callS X34 hx hZ 346 0 [(.ref t), (.ref ao), (.ref ar), (.int (Int32.ofNat 2)), (.int (3 : Int32))] hown (hw _ (List.mem_of_getElem? (i := 6) rfl)) (hw _ (List.mem_of_getElem? (i := 7) rfl)) (hw _ (List.mem_of_getElem? (i := 8) rfl)) (hw _ (List.mem_of_getElem? (i := 9) rfl)) (by decide) pd_3 rfl e34 (rm2 l Z a0 hw t ao ar 2 3 o rk G T31.heap O K ho hr8 (by decide) S hG (by decide)) (hb hby at_343) (by rw [hml]; rfl) rfl rfl (by decide) (by decide) (by decide) (by decide) rfl ?_
                    rintro v35 T35 L35 X35 ⟨rfl, e35, rfl⟩
                    refine W.ifEq X35 hx 353 349 (hb hby at_346) (by decide) (by decide) rfl (fun q => ?_) (fun q => ?_)
                    · exact absurd q (by decide)
                    · skip
                      refine W.iconst X35 hx 350 (1 : Int32) (hb hby at_349) rfl rfl ?_
                      refine W.goto X35 hx 354 (hb hby at_350) (by decide) (by decide) ?_
                      refine W.nret X35 hx hlk (t := .boolean) hret (by simp) (hb hby at_354) (by decide) (by decide) ?_
                      exact ⟨rfl, (Fr.app (Fr.app (Fr.app (Fr.app (Fr.app (Fr.app (Fr.app (Fr.app (Fr.app (Fr.app (Fr.app (Fr.app (Fr.app (Fr.app (Fr.app (Fr.app (Fr.app (Fr.app (Fr.app (Fr.app (Fr.app (Fr.nil _) (fr1 ge_ar)) (fr1 ge_ar)) (fr1 ge_ar)) (fr1 ge_ar)) (fr1 ge_aa)) (fr1 ge_aa)) (fr1 ge_aa)) (fr1 ge_aa)) (fr1 ge_aa)) (fr1 ge_aa)) (fr1 ge_aa)) (fr1 ge_aa)) (fr1 ge_aa)) (fr1 ge_aa)) (fr1 ge_ao)) (fr1 ge_ao)) N31) (Fr.nil _)) (Fr.nil _)) (Fr.nil _)) (Fr.nil _))⟩
            · exact absurd rfl q
          · exact absurd q (by decide)
        · exact absurd q (by decide)
  · skip
    refine W.ifLe X17 hx 221 213 (hb hby at_210) (by decide) (by decide) rfl (fun q => ?_) (fun q => ?_)
    · exact absurd (by decide) q
    · skip
      refine W.aload X17 hx 215 (hb hby at_213) rfl rfl rfl ?_
      refine W.iconst X17 hx 216 (0 : Int32) (hb hby at_215) rfl rfl ?_
      refine W.aload X17 hx 218 (hb hby at_216) rfl rfl rfl ?_
      refine W.iconst X17 hx 219 (0 : Int32) (hb hby at_218) rfl rfl ?_
      refine W.iaload X17 hx hZ 220 0 (.int (Int32.ofNat (fb2 0))) e17 A (by decide) (by decide) rfl (hb hby at_219) rfl ?_
      refine W.iastore X17 hx hZ 221 0 e17 O (by decide) (by decide) (hb hby at_220) rfl ?_
      intro T36 h36 X36 e36 W36 O
      have K := K.other W36 ne_ar_ao
      have A := A.other W36 ne_aa_ao
      have z36 : n0 ≤ h36.size := by rw [W36.size]; exact z17
      have O := own_set O
      refine W.iload X36 hx 223 (hb hby at_221) rfl rfl ?_
      refine W.iconst X36 hx 224 (1 : Int32) (hb hby at_223) rfl rfl ?_
      refine W.icmpLe X36 hx 235 227 (hb hby at_224) (by decide) (by decide) rfl (fun q => ?_) (fun q => ?_)
      · exact absurd (by decide) q
      · skip
        refine W.aload X36 hx 229 (hb hby at_227) rfl rfl rfl ?_
        refine W.iconst X36 hx 230 (1 : Int32) (hb hby at_229) rfl rfl ?_
        refine W.aload X36 hx 232 (hb hby at_230) rfl rfl rfl ?_
        refine W.iconst X36 hx 233 (1 : Int32) (hb hby at_232) rfl rfl ?_
        refine W.iaload X36 hx hZ 234 1 (.int (Int32.ofNat (fb2 1))) e36 A (by decide) (by decide) rfl (hb hby at_233) rfl ?_
        refine W.iastore X36 hx hZ 235 1 e36 O (by decide) (by decide) (hb hby at_234) rfl ?_
        intro T37 h37 X37 e37 W37 O
        have K := K.other W37 ne_ar_ao
        have A := A.other W37 ne_aa_ao
        have z37 : n0 ≤ h37.size := by rw [W37.size]; exact z36
        have O := own_set O
        refine W.iload X37 hx 237 (hb hby at_235) rfl rfl ?_
        refine W.iconst X37 hx 238 (2 : Int32) (hb hby at_237) rfl rfl ?_
        refine W.icmpLe X37 hx 249 241 (hb hby at_238) (by decide) (by decide) rfl (fun q => ?_) (fun q => ?_)
        · exact absurd (by decide) q
        · skip
          refine W.aload X37 hx 243 (hb hby at_241) rfl rfl rfl ?_
          refine W.iconst X37 hx 244 (2 : Int32) (hb hby at_243) rfl rfl ?_
          refine W.aload X37 hx 246 (hb hby at_244) rfl rfl rfl ?_
          refine W.iconst X37 hx 247 (2 : Int32) (hb hby at_246) rfl rfl ?_
          refine W.iaload X37 hx hZ 248 2 (.int (Int32.ofNat (fb2 2))) e37 A (by decide) (by decide) rfl (hb hby at_247) rfl ?_
          refine W.iastore X37 hx hZ 249 2 e37 O (by decide) (by decide) (hb hby at_248) rfl ?_
          intro T38 h38 X38 e38 W38 O
          have K := K.other W38 ne_ar_ao
          have A := A.other W38 ne_aa_ao
          have z38 : n0 ≤ h38.size := by rw [W38.size]; exact z37
          have O := own_set O
          refine W.iload X38 hx 251 (hb hby at_249) rfl rfl ?_
          refine W.iconst X38 hx 252 (3 : Int32) (hb hby at_251) rfl rfl ?_
          refine W.icmpLe X38 hx 263 255 (hb hby at_252) (by decide) (by decide) rfl (fun q => ?_) (fun q => ?_)
          · skip
            refine W.aload X38 hx 265 (hb hby at_263) rfl rfl rfl ?_
            refine W.aload X38 hx 267 (hb hby at_265) rfl rfl rfl ?_
            refine W.iload X38 hx 269 (hb hby at_267) rfl rfl ?_
            obtain ⟨o, hoo⟩ : ∃ z, z = (updN (updN (updN (fun _ => 0) 0 (fb2 0)) 1 (fb2 1)) 2 (fb2 2)) := ⟨_, rfl⟩
            rw [← hoo] at O
            have ho : ∀ j, o j < 4 := by rw [hoo]; exact (updN_lt (updN_lt (updN_lt (fun _ => Nat.zero_lt_succ _) (ha2 _)) (ha2 _)) (ha2 _))
            clear hoo
            obtain ⟨rk, hrk⟩ : ∃ z, z = (updN (updN (updN (updN (fun _ => 0) 0 r0) 1 r1) 2 r2) 3 r3) := ⟨_, rfl⟩
            rw [← hrk] at K
            have hr : ∀ j, rk j < rr + 1 := by rw [hrk]; exact (updN_lt (updN_lt (updN_lt (updN_lt (fun _ => Nat.succ_pos _) hr0) hr1) hr2) hr3)
            clear hrk
            have hr8 : ∀ j, rk j < 8 := fun j => Nat.lt_of_lt_of_le (hr j) (by omega)
            refine W.callS X38 hx hZ 272 0 [(.ref ao), (.ref ar), (.int (Int32.ofNat (rr + 1)))] hown (hw _ (List.mem_of_getElem? (i := 2) rfl)) (hw _ (List.mem_of_getElem? (i := 3) rfl)) (hw _ (List.mem_of_getElem? (i := 4) rfl)) (hw _ (List.mem_of_getElem? (i := 5) rfl)) (by decide) pd_2 rfl e38 (rmbr l Z a0 hw ao ar 3 (rr + 1) o rk h38 n0 z38 O K ho hr (by decide) (by omega)) (hb hby at_269) (by rw [hml]; rfl) rfl rfl (by decide) (by decide) (by decide) (by decide) rfl ?_
            rintro v39 T39 L39 X39 ⟨t, rfl, N39, K39, G, S, hG⟩
            have O := O.keep K39 nin0
            have K := K.keep K39 nin0
            refine W.astore X39 hx 274 #[.val (.int p1), .val (.int p2), .val (.int p3), .val (.int p4), .val (.int (Int32.ofNat (rr + 1))), .val (.ref ar), .val (.int (Int32.ofNat ix)), .val (.int (Int32.ofNat i0)), .val (.int (Int32.ofNat rs)), .val (.int (Int32.ofNat (1 + j1))), .val (.int (Int32.ofNat (2 + j2))), .val (.ref aa), .val (.int (Int32.ofNat (fb1 2))), .val (.int (Int32.ofNat 3)), .val (.ref ao), .val (.ref t)] (hb hby at_272) rfl rfl rfl ?_
            refine W.aload X39 hx 276 (hb hby at_274) rfl rfl rfl ?_
            refine W.nullR X39 hx 279 (hb hby at_276) rfl ?_
            refine W.aload X39 hx 281 (hb hby at_279) rfl rfl rfl ?_
            refine W.arrlen X39 hx hZ 282 rfl S (Int32.ofNat 3) rfl (hb hby at_281) rfl ?_
            refine W.iload X39 hx 284 (hb hby at_282) rfl rfl ?_
            refine W.icmpEq X39 hx 289 287 (hb hby at_284) (by decide) (by decide) rfl (fun q => ?_) (fun q => ?_)
            · skip
              refine W.aload X39 hx 291 (hb hby at_289) rfl rfl rfl ?_
              refine W.aload X39 hx 293 (hb hby at_291) rfl rfl rfl ?_
              refine W.aload X39 hx 295 (hb hby at_293) rfl rfl rfl ?_
              refine W.iload X39 hx 297 (hb hby at_295) rfl rfl ?_
              refine W.iconst X39 hx 298 (0 : Int32) (hb hby at_297) rfl rfl ?_
              refine W.callS X39 hx hZ 301 0 [(.ref t), (.ref ao), (.ref ar), (.int (Int32.ofNat 3)), (.int (0 : Int32))] hown (hw _ (List.mem_of_getElem? (i := 6) rfl)) (hw _ (List.mem_of_getElem? (i := 7) rfl)) (hw _ (List.mem_of_getElem? (i := 8) rfl)) (hw _ (List.mem_of_getElem? (i := 9) rfl)) (by decide) pd_3 rfl rfl (rm2 l Z a0 hw t ao ar 3 0 o rk G T39.heap O K ho hr8 (by decide) S hG (by decide)) (hb hby at_298) (by rw [hml]; rfl) rfl rfl (by decide) (by decide) (by decide) (by decide) rfl ?_
              rintro v40 T40 L40 X40 ⟨rfl, e40, rfl⟩
              refine W.ifEq X40 hx 353 304 (hb hby at_301) (by decide) (by decide) rfl (fun q => ?_) (fun q => ?_)
              · exact absurd q (by decide)
              · skip
                refine W.aload X40 hx 306 (hb hby at_304) rfl rfl rfl ?_
                refine W.aload X40 hx 308 (hb hby at_306) rfl rfl rfl ?_
                refine W.aload X40 hx 310 (hb hby at_308) rfl rfl rfl ?_
                refine W.iload X40 hx 312 (hb hby at_310) rfl rfl ?_
                refine W.iconst X40 hx 313 (1 : Int32) (hb hby at_312) rfl rfl ?_
                refine W.callS X40 hx hZ 316 0 [(.ref t), (.ref ao), (.ref ar), (.int (Int32.ofNat 3)), (.int (1 : Int32))] hown (hw _ (List.mem_of_getElem? (i := 6) rfl)) (hw _ (List.mem_of_getElem? (i := 7) rfl)) (hw _ (List.mem_of_getElem? (i := 8) rfl)) (hw _ (List.mem_of_getElem? (i := 9) rfl)) (by decide) pd_3 rfl e40 (rm2 l Z a0 hw t ao ar 3 1 o rk G T39.heap O K ho hr8 (by decide) S hG (by decide)) (hb hby at_313) (by rw [hml]; rfl) rfl rfl (by decide) (by decide) (by decide) (by decide) rfl ?_
                rintro v41 T41 L41 X41 ⟨rfl, e41, rfl⟩
                refine W.ifEq X41 hx 353 319 (hb hby at_316) (by decide) (by decide) rfl (fun q => ?_) (fun q => ?_)
                · exact absurd q (by decide)
                · skip
                  refine W.aload X41 hx 321 (hb hby at_319) rfl rfl rfl ?_
                  refine W.aload X41 hx 323 (hb hby at_321) rfl rfl rfl ?_
                  refine W.aload X41 hx 325 (hb hby at_323) rfl rfl rfl ?_
                  refine W.iload X41 hx 327 (hb hby at_325) rfl rfl ?_
                  refine W.iconst X41 hx 328 (2 : Int32) (hb hby at_327) rfl rfl ?_
                  refine W.callS X41 hx hZ 331 0 [(.ref t), (.ref ao), (.ref ar), (.int (Int32.ofNat 3)), (.int (2 : Int32))] hown (hw _ (List.mem_of_getElem? (i := 6) rfl)) (hw _ (List.mem_of_getElem? (i := 7) rfl)) (hw _ (List.mem_of_getElem? (i := 8) rfl)) (hw _ (List.mem_of_getElem? (i := 9) rfl)) (by decide) pd_3 rfl e41 (rm2 l Z a0 hw t ao ar 3 2 o rk G T39.heap O K ho hr8 (by decide) S hG (by decide)) (hb hby at_328) (by rw [hml]; rfl) rfl rfl (by decide) (by decide) (by decide) (by decide) rfl ?_
                  rintro v42 T42 L42 X42 ⟨rfl, e42, rfl⟩
                  refine W.ifEq X42 hx 353 334 (hb hby at_331) (by decide) (by decide) rfl (fun q => ?_) (fun q => ?_)
                  · exact absurd q (by decide)
                  · skip
                    refine W.aload X42 hx 336 (hb hby at_334) rfl rfl rfl ?_
                    refine W.aload X42 hx 338 (hb hby at_336) rfl rfl rfl ?_
                    refine W.aload X42 hx 340 (hb hby at_338) rfl rfl rfl ?_
                    refine W.iload X42 hx 342 (hb hby at_340) rfl rfl ?_
                    refine W.iconst X42 hx 343 (3 : Int32) (hb hby at_342) rfl rfl ?_
                    refine W.callS X42 hx hZ 346 0 [(.ref t), (.ref ao), (.ref ar), (.int (Int32.ofNat 3)), (.int (3 : Int32))] hown (hw _ (List.mem_of_getElem? (i := 6) rfl)) (hw _ (List.mem_of_getElem? (i := 7) rfl)) (hw _ (List.mem_of_getElem? (i := 8) rfl)) (hw _ (List.mem_of_getElem? (i := 9) rfl)) (by decide) pd_3 rfl e42 (rm2 l Z a0 hw t ao ar 3 3 o rk G T39.heap O K ho hr8 (by decide) S hG (by decide)) (hb hby at_343) (by rw [hml]; rfl) rfl rfl (by decide) (by decide) (by decide) (by decide) rfl ?_
                    rintro v43 T43 L43 X43 ⟨rfl, e43, rfl⟩
                    refine W.ifEq X43 hx 353 349 (hb hby at_346) (by decide) (by decide) rfl (fun q => ?_) (fun q => ?_)
                    · exact absurd q (by decide)
                    · skip
                      refine W.iconst X43 hx 350 (1 : Int32) (hb hby at_349) rfl rfl ?_
                      refine W.goto X43 hx 354 (hb hby at_350) (by decide) (by decide) ?_
                      refine W.nret X43 hx hlk (t := .boolean) hret (by simp) (hb hby at_354) (by decide) (by decide) ?_
                      exact ⟨rfl, (Fr.app (Fr.app (Fr.app (Fr.app (Fr.app (Fr.app (Fr.app (Fr.app (Fr.app (Fr.app (Fr.app (Fr.app (Fr.app (Fr.app (Fr.app (Fr.app (Fr.app (Fr.app (Fr.app (Fr.app (Fr.app (Fr.app (Fr.nil _) (fr1 ge_ar)) (fr1 ge_ar)) (fr1 ge_ar)) (fr1 ge_ar)) (fr1 ge_aa)) (fr1 ge_aa)) (fr1 ge_aa)) (fr1 ge_aa)) (fr1 ge_aa)) (fr1 ge_aa)) (fr1 ge_aa)) (fr1 ge_aa)) (fr1 ge_aa)) (fr1 ge_aa)) (fr1 ge_ao)) (fr1 ge_ao)) (fr1 ge_ao)) N39) (Fr.nil _)) (Fr.nil _)) (Fr.nil _)) (Fr.nil _))⟩
            · exact absurd rfl q
          · exact absurd q (by decide)
  · skip
    refine W.ifLe X17 hx 221 213 (hb hby at_210) (by decide) (by decide) rfl (fun q => ?_) (fun q => ?_)
    · exact absurd (by decide) q
    · skip
      refine W.aload X17 hx 215 (hb hby at_213) rfl rfl rfl ?_
      refine W.iconst X17 hx 216 (0 : Int32) (hb hby at_215) rfl rfl ?_
      refine W.aload X17 hx 218 (hb hby at_216) rfl rfl rfl ?_
      refine W.iconst X17 hx 219 (0 : Int32) (hb hby at_218) rfl rfl ?_
      refine W.iaload X17 hx hZ 220 0 (.int (Int32.ofNat (fb2 0))) e17 A (by decide) (by decide) rfl (hb hby at_219) rfl ?_
      refine W.iastore X17 hx hZ 221 0 e17 O (by decide) (by decide) (hb hby at_220) rfl ?_
      intro T44 h44 X44 e44 W44 O
      have K := K.other W44 ne_ar_ao
      have A := A.other W44 ne_aa_ao
      have z44 : n0 ≤ h44.size := by rw [W44.size]; exact z17
      have O := own_set O
      refine W.iload X44 hx 223 (hb hby at_221) rfl rfl ?_
      refine W.iconst X44 hx 224 (1 : Int32) (hb hby at_223) rfl rfl ?_
      refine W.icmpLe X44 hx 235 227 (hb hby at_224) (by decide) (by decide) rfl (fun q => ?_) (fun q => ?_)
      · exact absurd (by decide) q
      · skip
        refine W.aload X44 hx 229 (hb hby at_227) rfl rfl rfl ?_
        refine W.iconst X44 hx 230 (1 : Int32) (hb hby at_229) rfl rfl ?_
        refine W.aload X44 hx 232 (hb hby at_230) rfl rfl rfl ?_
        refine W.iconst X44 hx 233 (1 : Int32) (hb hby at_232) rfl rfl ?_
        refine W.iaload X44 hx hZ 234 1 (.int (Int32.ofNat (fb2 1))) e44 A (by decide) (by decide) rfl (hb hby at_233) rfl ?_
        refine W.iastore X44 hx hZ 235 1 e44 O (by decide) (by decide) (hb hby at_234) rfl ?_
        intro T45 h45 X45 e45 W45 O
        have K := K.other W45 ne_ar_ao
        have A := A.other W45 ne_aa_ao
        have z45 : n0 ≤ h45.size := by rw [W45.size]; exact z44
        have O := own_set O
        refine W.iload X45 hx 237 (hb hby at_235) rfl rfl ?_
        refine W.iconst X45 hx 238 (2 : Int32) (hb hby at_237) rfl rfl ?_
        refine W.icmpLe X45 hx 249 241 (hb hby at_238) (by decide) (by decide) rfl (fun q => ?_) (fun q => ?_)
        · exact absurd (by decide) q
        · skip
          refine W.aload X45 hx 243 (hb hby at_241) rfl rfl rfl ?_
          refine W.iconst X45 hx 244 (2 : Int32) (hb hby at_243) rfl rfl ?_
          refine W.aload X45 hx 246 (hb hby at_244) rfl rfl rfl ?_
          refine W.iconst X45 hx 247 (2 : Int32) (hb hby at_246) rfl rfl ?_
          refine W.iaload X45 hx hZ 248 2 (.int (Int32.ofNat (fb2 2))) e45 A (by decide) (by decide) rfl (hb hby at_247) rfl ?_
          refine W.iastore X45 hx hZ 249 2 e45 O (by decide) (by decide) (hb hby at_248) rfl ?_
          intro T46 h46 X46 e46 W46 O
          have K := K.other W46 ne_ar_ao
          have A := A.other W46 ne_aa_ao
          have z46 : n0 ≤ h46.size := by rw [W46.size]; exact z45
          have O := own_set O
          refine W.iload X46 hx 251 (hb hby at_249) rfl rfl ?_
          refine W.iconst X46 hx 252 (3 : Int32) (hb hby at_251) rfl rfl ?_
          refine W.icmpLe X46 hx 263 255 (hb hby at_252) (by decide) (by decide) rfl (fun q => ?_) (fun q => ?_)
          · exact absurd (by decide) q
          · skip
            refine W.aload X46 hx 257 (hb hby at_255) rfl rfl rfl ?_
            refine W.iconst X46 hx 258 (3 : Int32) (hb hby at_257) rfl rfl ?_
            refine W.aload X46 hx 260 (hb hby at_258) rfl rfl rfl ?_
            refine W.iconst X46 hx 261 (3 : Int32) (hb hby at_260) rfl rfl ?_
            refine W.iaload X46 hx hZ 262 3 (.int (Int32.ofNat (fb2 3))) e46 A (by decide) (by decide) rfl (hb hby at_261) rfl ?_
            refine W.iastore X46 hx hZ 263 3 e46 O (by decide) (by decide) (hb hby at_262) rfl ?_
            intro T47 h47 X47 e47 W47 O
            have K := K.other W47 ne_ar_ao
            have A := A.other W47 ne_aa_ao
            have z47 : n0 ≤ h47.size := by rw [W47.size]; exact z46
            have O := own_set O
            refine W.aload X47 hx 265 (hb hby at_263) rfl rfl rfl ?_
            refine W.aload X47 hx 267 (hb hby at_265) rfl rfl rfl ?_
            refine W.iload X47 hx 269 (hb hby at_267) rfl rfl ?_
            obtain ⟨o, hoo⟩ : ∃ z, z = (updN (updN (updN (updN (fun _ => 0) 0 (fb2 0)) 1 (fb2 1)) 2 (fb2 2)) 3 (fb2 3)) := ⟨_, rfl⟩
            rw [← hoo] at O
            have ho : ∀ j, o j < 4 := by rw [hoo]; exact (updN_lt (updN_lt (updN_lt (updN_lt (fun _ => Nat.zero_lt_succ _) (ha2 _)) (ha2 _)) (ha2 _)) (ha2 _))
            clear hoo
            obtain ⟨rk, hrk⟩ : ∃ z, z = (updN (updN (updN (updN (fun _ => 0) 0 r0) 1 r1) 2 r2) 3 r3) := ⟨_, rfl⟩
            rw [← hrk] at K
            have hr : ∀ j, rk j < rr + 1 := by rw [hrk]; exact (updN_lt (updN_lt (updN_lt (updN_lt (fun _ => Nat.succ_pos _) hr0) hr1) hr2) hr3)
            clear hrk
            have hr8 : ∀ j, rk j < 8 := fun j => Nat.lt_of_lt_of_le (hr j) (by omega)
            refine W.callS X47 hx hZ 272 0 [(.ref ao), (.ref ar), (.int (Int32.ofNat (rr + 1)))] hown (hw _ (List.mem_of_getElem? (i := 2) rfl)) (hw _ (List.mem_of_getElem? (i := 3) rfl)) (hw _ (List.mem_of_getElem? (i := 4) rfl)) (hw _ (List.mem_of_getElem? (i := 5) rfl)) (by decide) pd_2 rfl e47 (rmbr l Z a0 hw ao ar 4 (rr + 1) o rk h47 n0 z47 O K ho hr (by decide) (by omega)) (hb hby at_269) (by rw [hml]; rfl) rfl rfl (by decide) (by decide) (by decide) (by decide) rfl ?_
            rintro v48 T48 L48 X48 ⟨t, rfl, N48, K48, G, S, hG⟩
            have O := O.keep K48 nin0
            have K := K.keep K48 nin0
            refine W.astore X48 hx 274 #[.val (.int p1), .val (.int p2), .val (.int p3), .val (.int p4), .val (.int (Int32.ofNat (rr + 1))), .val (.ref ar), .val (.int (Int32.ofNat ix)), .val (.int (Int32.ofNat i0)), .val (.int (Int32.ofNat rs)), .val (.int (Int32.ofNat (1 + j1))), .val (.int (Int32.ofNat (2 + j2))), .val (.ref aa), .val (.int (Int32.ofNat (fb1 2))), .val (.int (Int32.ofNat 4)), .val (.ref ao), .val (.ref t)] (hb hby at_272) rfl rfl rfl ?_
            refine W.aload X48 hx 276 (hb hby at_274) rfl rfl rfl ?_
            refine W.nullR X48 hx 279 (hb hby at_276) rfl ?_
            refine W.aload X48 hx 281 (hb hby at_279) rfl rfl rfl ?_
            refine W.arrlen X48 hx hZ 282 rfl S (Int32.ofNat 4) rfl (hb hby at_281) rfl ?_
            refine W.iload X48 hx 284 (hb hby at_282) rfl rfl ?_
            refine W.icmpEq X48 hx 289 287 (hb hby at_284) (by decide) (by decide) rfl (fun q => ?_) (fun q => ?_)
            · skip
              refine W.aload X48 hx 291 (hb hby at_289) rfl rfl rfl ?_
              refine W.aload X48 hx 293 (hb hby at_291) rfl rfl rfl ?_
              refine W.aload X48 hx 295 (hb hby at_293) rfl rfl rfl ?_
              refine W.iload X48 hx 297 (hb hby at_295) rfl rfl ?_
              refine W.iconst X48 hx 298 (0 : Int32) (hb hby at_297) rfl rfl ?_
              refine W.callS X48 hx hZ 301 0 [(.ref t), (.ref ao), (.ref ar), (.int (Int32.ofNat 4)), (.int (0 : Int32))] hown (hw _ (List.mem_of_getElem? (i := 6) rfl)) (hw _ (List.mem_of_getElem? (i := 7) rfl)) (hw _ (List.mem_of_getElem? (i := 8) rfl)) (hw _ (List.mem_of_getElem? (i := 9) rfl)) (by decide) pd_3 rfl rfl (rm2 l Z a0 hw t ao ar 4 0 o rk G T48.heap O K ho hr8 (by decide) S hG (by decide)) (hb hby at_298) (by rw [hml]; rfl) rfl rfl (by decide) (by decide) (by decide) (by decide) rfl ?_
              rintro v49 T49 L49 X49 ⟨rfl, e49, rfl⟩
              refine W.ifEq X49 hx 353 304 (hb hby at_301) (by decide) (by decide) rfl (fun q => ?_) (fun q => ?_)
              · exact absurd q (by decide)
              · skip
                refine W.aload X49 hx 306 (hb hby at_304) rfl rfl rfl ?_
                refine W.aload X49 hx 308 (hb hby at_306) rfl rfl rfl ?_
                refine W.aload X49 hx 310 (hb hby at_308) rfl rfl rfl ?_
                refine W.iload X49 hx 312 (hb hby at_310) rfl rfl ?_
                refine W.iconst X49 hx 313 (1 : Int32) (hb hby at_312) rfl rfl ?_
                refine W.callS X49 hx hZ 316 0 [(.ref t), (.ref ao), (.ref ar), (.int (Int32.ofNat 4)), (.int (1 : Int32))] hown (hw _ (List.mem_of_getElem? (i := 6) rfl)) (hw _ (List.mem_of_getElem? (i := 7) rfl)) (hw _ (List.mem_of_getElem? (i := 8) rfl)) (hw _ (List.mem_of_getElem? (i := 9) rfl)) (by decide) pd_3 rfl e49 (rm2 l Z a0 hw t ao ar 4 1 o rk G T48.heap O K ho hr8 (by decide) S hG (by decide)) (hb hby at_313) (by rw [hml]; rfl) rfl rfl (by decide) (by decide) (by decide) (by decide) rfl ?_
                rintro v50 T50 L50 X50 ⟨rfl, e50, rfl⟩
                refine W.ifEq X50 hx 353 319 (hb hby at_316) (by decide) (by decide) rfl (fun q => ?_) (fun q => ?_)
                · exact absurd q (by decide)
                · skip
                  refine W.aload X50 hx 321 (hb hby at_319) rfl rfl rfl ?_
                  refine W.aload X50 hx 323 (hb hby at_321) rfl rfl rfl ?_
                  refine W.aload X50 hx 325 (hb hby at_323) rfl rfl rfl ?_
                  refine W.iload X50 hx 327 (hb hby at_325) rfl rfl ?_
                  refine W.iconst X50 hx 328 (2 : Int32) (hb hby at_327) rfl rfl ?_
                  refine W.callS X50 hx hZ 331 0 [(.ref t), (.ref ao), (.ref ar), (.int (Int32.ofNat 4)), (.int (2 : Int32))] hown (hw _ (List.mem_of_getElem? (i := 6) rfl)) (hw _ (List.mem_of_getElem? (i := 7) rfl)) (hw _ (List.mem_of_getElem? (i := 8) rfl)) (hw _ (List.mem_of_getElem? (i := 9) rfl)) (by decide) pd_3 rfl e50 (rm2 l Z a0 hw t ao ar 4 2 o rk G T48.heap O K ho hr8 (by decide) S hG (by decide)) (hb hby at_328) (by rw [hml]; rfl) rfl rfl (by decide) (by decide) (by decide) (by decide) rfl ?_
                  rintro v51 T51 L51 X51 ⟨rfl, e51, rfl⟩
                  refine W.ifEq X51 hx 353 334 (hb hby at_331) (by decide) (by decide) rfl (fun q => ?_) (fun q => ?_)
                  · exact absurd q (by decide)
                  · skip
                    refine W.aload X51 hx 336 (hb hby at_334) rfl rfl rfl ?_
                    refine W.aload X51 hx 338 (hb hby at_336) rfl rfl rfl ?_
                    refine W.aload X51 hx 340 (hb hby at_338) rfl rfl rfl ?_
                    refine W.iload X51 hx 342 (hb hby at_340) rfl rfl ?_
                    refine W.iconst X51 hx 343 (3 : Int32) (hb hby at_342) rfl rfl ?_
                    refine W.callS X51 hx hZ 346 0 [(.ref t), (.ref ao), (.ref ar), (.int (Int32.ofNat 4)), (.int (3 : Int32))] hown (hw _ (List.mem_of_getElem? (i := 6) rfl)) (hw _ (List.mem_of_getElem? (i := 7) rfl)) (hw _ (List.mem_of_getElem? (i := 8) rfl)) (hw _ (List.mem_of_getElem? (i := 9) rfl)) (by decide) pd_3 rfl e51 (rm2 l Z a0 hw t ao ar 4 3 o rk G T48.heap O K ho hr8 (by decide) S hG (by decide)) (hb hby at_343) (by rw [hml]; rfl) rfl rfl (by decide) (by decide) (by decide) (by decide) rfl ?_
                    rintro v52 T52 L52 X52 ⟨rfl, e52, rfl⟩
                    refine W.ifEq X52 hx 353 349 (hb hby at_346) (by decide) (by decide) rfl (fun q => ?_) (fun q => ?_)
                    · exact absurd q (by decide)
                    · skip
                      refine W.iconst X52 hx 350 (1 : Int32) (hb hby at_349) rfl rfl ?_
                      refine W.goto X52 hx 354 (hb hby at_350) (by decide) (by decide) ?_
                      refine W.nret X52 hx hlk (t := .boolean) hret (by simp) (hb hby at_354) (by decide) (by decide) ?_
                      exact ⟨rfl, (Fr.app (Fr.app (Fr.app (Fr.app (Fr.app (Fr.app (Fr.app (Fr.app (Fr.app (Fr.app (Fr.app (Fr.app (Fr.app (Fr.app (Fr.app (Fr.app (Fr.app (Fr.app (Fr.app (Fr.app (Fr.app (Fr.app (Fr.app (Fr.nil _) (fr1 ge_ar)) (fr1 ge_ar)) (fr1 ge_ar)) (fr1 ge_ar)) (fr1 ge_aa)) (fr1 ge_aa)) (fr1 ge_aa)) (fr1 ge_aa)) (fr1 ge_aa)) (fr1 ge_aa)) (fr1 ge_aa)) (fr1 ge_aa)) (fr1 ge_aa)) (fr1 ge_aa)) (fr1 ge_ao)) (fr1 ge_ao)) (fr1 ge_ao)) (fr1 ge_ao)) N48) (Fr.nil _)) (Fr.nil _)) (Fr.nil _)) (Fr.nil _))⟩
            · exact absurd rfl q
set_option maxRecDepth 65536 in
set_option maxHeartbeats 40000000 in
theorem comes_1 {Post : Tables → Env → Array Value → State → Outcome → State → Prop} (hpost : ∀ tb e args s v u, (limb_1_1.after args s (.returned v) u = true ∧ limb_1_2.after args s (.returned v) u = true ∧ True) → FrameEnd s (.returned v) u (Jvm.fieldLocs frame_1_writes args s ++ Jvm.arrayLocs frame_1_arrays args s ++ Jvm.staticLocs frame_1_statics s) 24 128 → Post tb e args s (.returned v) u) :
    ArmFor flags0 classFile x code maxLocals ret World_1 tables_1 room_1 Calls_1 rest_1 Pre_1 Post := by
  intro l hfl _ _ p e ha hc hk s m args below hf hA hF happ hP
  obtain ⟨hcalls, hrest, hpre⟩ := hP
  obtain ⟨-, -, -, hnamed, -, -, -, hat⟩ := (Spec.applies_iff hf).mp happ
  obtain ⟨hg, hn⟩ := and_e (Cond.before_iff.mp (show (Jvm.Cond.and given_1 narrow_1).before args s = true from hpre))
  obtain ⟨hcount, hg0⟩ := and_e hg
  obtain ⟨k0, hg1⟩ := and_e hg0
  obtain ⟨k1, hg2⟩ := and_e hg1
  obtain ⟨k2, hg3⟩ := and_e hg2
  have k3 := hg3
  obtain ⟨w0, w1, w2, w3, rfl⟩ : ∃ w0 w1 w2 w3 : Value, args = #[w0, w1, w2, w3] := by
    have hs : args.size = 4 := by simpa [Cond.value, given_1] using hcount
    obtain ⟨L⟩ := args
    match L, hs with
    | [w0, w1, w2, w3], _ => exact ⟨w0, w1, w2, w3, rfl⟩
  have hw := fun d (hd : d ∈ tables_1) => atoms_spec (ws := Jvm.Cond.code x code maxLocals ret :: tables_1) hat d (List.mem_cons_of_mem _ hd)
  have hfit : Fit s := fun {y c} hc i hi => by
    obtain ⟨ha, rfl⟩ := Array.getElem?_eq_some_iff.mp hc
    have q := List.all_eq_true.mp ((Array.all_eq_true_iff_forall_mem.mp hF) _ (Array.getElem_mem ha)) i (List.mem_range.mpr hi)
    simpa [Array.getElem?_eq_getElem hi] using q
  obtain ⟨i0, j0⟩ := is_v k0
  obtain rfl : w0 = (.int i0) := Option.some.inj j0
  obtain ⟨i1, j1⟩ := is_v k1
  obtain rfl : w1 = (.int i1) := Option.some.inj j1
  obtain ⟨i2, j2⟩ := is_v k2
  obtain rfl : w2 = (.int i2) := Option.some.inj j2
  obtain ⟨i3, j3⟩ := is_v k3
  obtain rfl : w3 = (.int i3) := Option.some.inj j3
  obtain ⟨n, o, h1, h2, h3, _, L, rfl, ⟨rfl, N⟩, hq⟩ := rm0 l s _ hw tables_1 i0 i1 i2 i3 s.heap s.heap.size (Nat.le_refl _) p e ha hc hk s m _ below hf ((Spec.applies_iff_loose hf).mp happ).1 ⟨rfl, State.Warmed39.refl s, rfl⟩ trivial
  refine ⟨n, _, h1, h2, h3, hpost _ _ _ _ _ _ ⟨Cond.after_iff.mpr rfl, Cond.after_iff.mpr (eq_i res_at (Term.int_eval (1)) rfl), trivial⟩ ⟨hq.1, hq.2.1, (hq.2.2.sift fun y hy => Or.inr (N y hy)).mono (by decide) (by decide)⟩⟩
theorem main_1_1 : Claimed_1_1 := comes_1 fun _ _ _ _ _ _ h hF => ⟨h.1, hF⟩
theorem main_1_2 : Claimed_1_2 := comes_1 fun _ _ _ _ _ _ h hF => ⟨h.2.1, hF⟩
end Jvm.Pilot.@@N@@
namespace Jvm.Pilot.@@N@@
open Jvm Jvm.ClassFile Sem Op Lib Jvm.Free Jvm.Stand Jvm.Pilot.@@N@@.Jvm.D
/-! MADE BY PROGRAM (witnessworld.py) out of the Statement's table words and the real class files: 9 classes; the members and pool entries that the words name. The judged class is class 1, her method 1. -/
namespace start1
open Jvm.ClassFile
def u (s : String) : CpInfo := .utf8 (stringToUtf16 s)
/-- a pool by its gaps: so many unusable entries, then the entry; so many at the end -/
def gap : Nat → List CpInfo → List CpInfo
  | 0, r => r
  | n + 1, r => .unusable :: gap n r
def poolList (es : List (Nat × CpInfo)) (last : Nat) : List CpInfo := es.foldr (fun e r => gap e.1 (e.2 :: r)) (gap last [])
def pool (es : List (Nat × CpInfo)) (last : Nat) : Array CpInfo := ⟨poolList es last⟩
def fileOf (pool : Array CpInfo) (this : Nat) (attrs : Array Attribute := #[]) (ms : Array MethodInfo := #[]) (fl : Nat := 33) (sup : Nat := 0) (ifs : Array Nat := #[]) (fds : Array FieldInfo := #[]) : ClassFile where
  minorVersion := 0
  majorVersion := 65
  constantPool := pool
  accessFlags := fl
  thisClass := this
  superClass := sup
  interfaces := ifs
  fields := fds
  methods := ms
  attributes := attrs
def plain (name : String) (sup : Option ClassId) : Class where
  name := name
  kind := .ordinary
  loader := none
  accessFlags := 33
  super := sup
  interfaces := #[]
  cf := none
  fields := #[]
  methods := #[]
  instanceTypes := #[]
  staticTypes := #[]
  resolved := #[]
  callSites := []
  init := .initialized
  statics := none
  mirror := none

def pool0 : Array CpInfo := pool [(5, u "<init>"), (0, u "()V"), (1, .class_ 10), (1, u "java/lang/Object")] 113

def k0m0 : Method := { name := "<init>", desc := "()V", sig := { parameters := [], returnType := none }, accessFlags := 1, code := none }
/-- java/lang/Object -/
def k0 : Class := { plain "java/lang/Object" none with
  accessFlags := 33
  interfaces := #[]
  cf := some (fileOf pool0 8 #[] #[{ accessFlags := 1, nameIndex := 5, descriptorIndex := 6, attributes := #[] }] 33 0 #[] #[])
  fields := #[]
  methods := #[k0m0]
  instanceTypes := #[]
  staticTypes := #[]
  resolved := Array.replicate 124 none
  statics := none }

def pool1 : Array CpInfo := pool [(2, .class_ 4), (1, u "java/lang/Object"), (0, u "<init>"), (0, u "()V"), (0, .integer 2147483647), (0, .methodref 9 10), (0, .class_ 11), (0, .nameAndType 12 13), (0, u "com/example/margrave/margrave/engine/CountingSort"), (0, u "byRank"), (0, u "([I[II)[I"), (0, .methodref 15 16), (0, .class_ 17), (0, .nameAndType 18 19), (0, u "com/example/margrave/margrave/engine/CountingSortByRankPinLaw"), (0, u "placed"), (0, u "([I[I[III)Z"), (0, .methodref 15 21), (0, .nameAndType 22 23), (0, u "dest"), (0, u "([I[III)I"), (0, .methodref 15 25), (0, .nameAndType 26 27), (0, u "before"), (0, u "([I[IIIII)I"), (2, u "law"), (0, u "(IIII)Z")] 5

def k1m0 : Method := { name := "<init>", desc := "()V", sig := { parameters := [], returnType := none }, accessFlags := 2, code := none }
def k1c1 : Code := { maxStack := 5, maxLocals := 16, code := code, exceptionTable := #[], attributes := #[] }
def k1m1 : Method := { name := "law", desc := "(IIII)Z", sig := { parameters := [.int, .int, .int, .int], returnType := some .boolean }, accessFlags := 9, code := some k1c1 }
def k1c2 : Code := { maxStack := 5, maxLocals := 5, code := method_3_code, exceptionTable := #[], attributes := #[] }
def k1m2 : Method := { name := "placed", desc := "([I[I[III)Z", sig := { parameters := [(.array .int), (.array .int), (.array .int), .int, .int], returnType := some .boolean }, accessFlags := 10, code := some k1c2 }
def k1c3 : Code := { maxStack := 7, maxLocals := 5, code := method_4_code, exceptionTable := #[], attributes := #[] }
def k1m3 : Method := { name := "dest", desc := "([I[III)I", sig := { parameters := [(.array .int), (.array .int), .int, .int], returnType := some .int }, accessFlags := 10, code := some k1c3 }
def k1c4 : Code := { maxStack := 3, maxLocals := 7, code := method_5_code, exceptionTable := #[], attributes := #[] }
def k1m4 : Method := { name := "before", desc := "([I[IIIII)I", sig := { parameters := [(.array .int), (.array .int), .int, .int, .int, .int], returnType := some .int }, accessFlags := 10, code := some k1c4 }
/-- com/example/margrave/margrave/engine/CountingSortByRankPinLaw -/
def k1 : Class := { plain "com/example/margrave/margrave/engine/CountingSortByRankPinLaw" (some 0) with
  accessFlags := 49
  interfaces := #[]
  cf := some (fileOf pool1 15 #[] #[{ accessFlags := 2, nameIndex := 5, descriptorIndex := 6, attributes := #[] }, { accessFlags := 9, nameIndex := 30, descriptorIndex := 31, attributes := #[] }, { accessFlags := 10, nameIndex := 18, descriptorIndex := 19, attributes := #[] }, { accessFlags := 10, nameIndex := 22, descriptorIndex := 23, attributes := #[] }, { accessFlags := 10, nameIndex := 26, descriptorIndex := 27, attributes := #[] }] 49 2 #[] #[])
  fields := #[]
  methods := #[k1m0, k1m1, k1m2, k1m3, k1m4]
  instanceTypes := #[]
  staticTypes := #[]
  resolved := Array.replicate 37 none
  statics := none }

def pool2 : Array CpInfo := pool [(2, .class_ 4), (1, u "java/lang/Object"), (0, u "<init>"), (0, u "()V"), (34, .class_ 42), (0, u "com/example/margrave/margrave/engine/CountingSort"), (2, u "byRank"), (0, u "([I[II)[I")] 33

def k2m0 : Method := { name := "<init>", desc := "()V", sig := { parameters := [], returnType := none }, accessFlags := 2, code := none }
def k2c1 : Code := { maxStack := 6, maxLocals := 9, code := prog_69_method_2_code, exceptionTable := #[], attributes := #[] }
def k2m1 : Method := { name := "byRank", desc := "([I[II)[I", sig := { parameters := [(.array .int), (.array .int), .int], returnType := some (.array .int) }, accessFlags := 8, code := some k2c1 }
/-- com/example/margrave/margrave/engine/CountingSort -/
def k2 : Class := { plain "com/example/margrave/margrave/engine/CountingSort" (some 0) with
  accessFlags := 32
  interfaces := #[]
  cf := some (fileOf pool2 41 #[] #[{ accessFlags := 2, nameIndex := 5, descriptorIndex := 6, attributes := #[] }, { accessFlags := 8, nameIndex := 45, descriptorIndex := 46, attributes := #[] }] 32 2 #[] #[])
  fields := #[]
  methods := #[k2m0, k2m1]
  instanceTypes := #[]
  staticTypes := #[]
  resolved := Array.replicate 80 none
  statics := none }

def pool3 : Array CpInfo := pool [(1, u "java/lang/Cloneable"), (0, .class_ 1), (0, u "java/lang/Object"), (0, .class_ 3)] 3

/-- java/lang/Cloneable -/
def k3 : Class := { plain "java/lang/Cloneable" (some 0) with
  accessFlags := 1537
  interfaces := #[]
  cf := some (fileOf pool3 2 #[] #[] 1537 4 #[] #[])
  fields := #[]
  methods := #[]
  instanceTypes := #[]
  staticTypes := #[]
  resolved := Array.replicate 8 none
  statics := none }

def pool4 : Array CpInfo := pool [(1, u "java/io/Serializable"), (0, .class_ 1), (0, u "java/lang/Object"), (0, .class_ 3)] 3

/-- java/io/Serializable -/
def k4 : Class := { plain "java/io/Serializable" (some 0) with
  accessFlags := 1537
  interfaces := #[]
  cf := some (fileOf pool4 2 #[] #[] 1537 4 #[] #[])
  fields := #[]
  methods := #[]
  instanceTypes := #[]
  staticTypes := #[]
  resolved := Array.replicate 8 none
  statics := none }

/-- the primitive byte -/
def k5 : Class := { plain "byte" none with kind := .primitive 'B', accessFlags := 0x411 }
/-- [B -/
def k6 : Class := { plain "[B" (some 0) with kind := .array 5 .byte, interfaces := #[3, 4], accessFlags := 1041 }

/-- the primitive int -/
def k7 : Class := { plain "int" none with kind := .primitive 'I', accessFlags := 0x411 }
/-- [I -/
def k8 : Class := { plain "[I" (some 0) with kind := .array 7 .int, interfaces := #[3, 4], accessFlags := 1041 }

def heap : Heap := #[]
def classes : Array Class := #[k0, k1, k2, k3, k4, k5, k6, k7, k8]
def interned : List (Array UInt16 × Addr) := []
def slotsUsed : Nat := 0
def theMethod : MethodId := ⟨1, 1⟩
def args0 : Array Value := #[.int 5, .int 7, .int 9, .int 11]
def aboutOver (below : List Frame) : State where
  vm := { classes := classes, interned := interned.toArray }
  heap := heap
  slotsUsed := slotsUsed
  threads := #[{ frames := .invoking theMethod args0 :: below }]
def below0 : List Frame := [.native { method := ⟨0, 0⟩, args := #[] }]
def about1 : State := aboutOver below0
def p0 : Program := .bare "" "" ""
def e0 : Env := launch0.env 0 0 0
theorem w_frames : about1.frames = Frame.invoking theMethod args0 :: below0 := rfl
set_option maxRecDepth 65536 in
theorem w_args : argsFit about1.vm theMethod args0 = true := by decide +kernel
set_option maxRecDepth 65536 in
theorem w_heap : heapFits about1 = true := by decide +kernel
set_option maxRecDepth 65536 in
theorem w_runnable : about1.curStatus? = some .runnable := by decide +kernel
set_option maxRecDepth 65536 in
theorem w_alone : about1.alone = true := by decide +kernel
set_option maxRecDepth 65536 in
theorem w_named : about1.methodNamed? x = some theMethod := by decide +kernel
set_option maxRecDepth 65536 in
theorem w_hears : about1.hears theMethod below0 = true := by decide +kernel
set_option maxRecDepth 65536 in
theorem w_ripe : about1.ripe theMethod args0 below0 = true := by decide +kernel
theorem w_running : about1.status = .running := rfl
set_option maxRecDepth 65536 in
theorem w_room : about1.hasRoom e0.platform room_1 = true :=
  launch0.hasRoom_least _ room_1 (by decide +kernel) (by decide +kernel) (by decide +kernel) (by decide +kernel) (by decide +kernel) (by decide +kernel)
theorem allAtoms_all (ts : List Jvm.Cond) (a : Array Jvm.Value) (st : Jvm.State) : (allAtoms ts).before a st = ts.all (fun c => c.before a st) := by
  induction ts with
  | nil => rfl
  | cons c t ih =>
    show (Jvm.Cond.and c (allAtoms t)).before a st = _
    rw [Jvm.Cond.before_and, ih, List.all_cons]
def words1 : List Jvm.Cond := Jvm.Cond.code x code maxLocals ret :: tables_1
/-- a 'code' word, met by the world's own term for the bytes: nothing is compared byte by byte -/
theorem code_word {y : MethodName} {bytes : ByteArray} {mx : Nat} {rt : Option FieldType} {a : Array Value} {s : State} {m : MethodId} {meth : Method} {c : Code} (h1 : s.methodNamed? y = some m) (h2 : s.vm.method? m = some meth) (h3 : meth.code = some c) (h4 : c.code = bytes)
    (h5 : (c.maxLocals == mx && c.exceptionTable.isEmpty && decide (c.maxStack ≤ mostOperands) && decide (meth.sig.returnType = rt) && !meth.locks && decide (parseMethodDescriptor y.desc = some meth.sig)) = true) : (Jvm.Cond.code y bytes mx rt).before a s = true := by
  simp only [Bool.and_eq_true, beq_iff_eq, Bool.not_eq_true', decide_eq_true_eq] at h5
  obtain ⟨⟨⟨⟨⟨g1, g2⟩, g3⟩, g4⟩, g5⟩, g6⟩ := h5
  simp [Cond.before, Cond.holds, Cond.value, h1, h2, h3, h4, g1, g2, g3, g4, g5, g6]
def isCode : Jvm.Cond → Bool
  | .code _ _ _ _ => true
  | _ => false
theorem all_split {L : List Jvm.Cond} {P : Jvm.Cond → Bool} (h1 : L.all (fun c => isCode c || P c) = true) (h2 : ∀ c ∈ L.filter isCode, P c = true) : L.all P = true := by
  refine List.all_eq_true.mpr fun c hc => ?_
  have h := List.all_eq_true.mp h1 c hc
  rcases Bool.eq_false_or_eq_true (isCode c) with hi | hi
  · exact h2 c (List.mem_filter.mpr ⟨hc, hi⟩)
  · simpa [hi] using h
set_option maxRecDepth 65536 in
theorem w_c0 : (Jvm.Cond.code x code maxLocals ret).before args0 about1 = true := code_word (m := ⟨1, 1⟩) (meth := k1m1) (c := k1c1) (by decide +kernel) rfl rfl rfl (by decide +kernel)
set_option maxRecDepth 65536 in
theorem w_c1 : (Jvm.Cond.code ({ cls := "com/example/margrave/margrave/engine/CountingSort", name := "byRank", desc := "([I[II)[I" } : Jvm.MethodName) prog_69_method_2_code (9 : Nat) (Option.some (Jvm.ClassFile.FieldType.array Jvm.ClassFile.FieldType.int))).before args0 about1 = true := code_word (m := ⟨2, 1⟩) (meth := k2m1) (c := k2c1) (by decide +kernel) rfl rfl rfl (by decide +kernel)
set_option maxRecDepth 65536 in
theorem w_c2 : (Jvm.Cond.code ({ cls := "com/example/margrave/margrave/engine/CountingSortByRankPinLaw", name := "placed", desc := "([I[I[III)Z" } : Jvm.MethodName) method_3_code (5 : Nat) (Option.some Jvm.ClassFile.FieldType.boolean)).before args0 about1 = true := code_word (m := ⟨1, 2⟩) (meth := k1m2) (c := k1c2) (by decide +kernel) rfl rfl rfl (by decide +kernel)
set_option maxRecDepth 65536 in
theorem w_c3 : (Jvm.Cond.code ({ cls := "com/example/margrave/margrave/engine/CountingSortByRankPinLaw", name := "dest", desc := "([I[III)I" } : Jvm.MethodName) method_4_code (5 : Nat) (Option.some Jvm.ClassFile.FieldType.int)).before args0 about1 = true := code_word (m := ⟨1, 3⟩) (meth := k1m3) (c := k1c3) (by decide +kernel) rfl rfl rfl (by decide +kernel)
set_option maxRecDepth 65536 in
theorem w_c4 : (Jvm.Cond.code ({ cls := "com/example/margrave/margrave/engine/CountingSortByRankPinLaw", name := "before", desc := "([I[IIIII)I" } : Jvm.MethodName) method_5_code (7 : Nat) (Option.some Jvm.ClassFile.FieldType.int)).before args0 about1 = true := code_word (m := ⟨1, 4⟩) (meth := k1m4) (c := k1c4) (by decide +kernel) rfl rfl rfl (by decide +kernel)
def codes1 : List Jvm.Cond := [Jvm.Cond.code x code maxLocals ret, Jvm.Cond.code ({ cls := "com/example/margrave/margrave/engine/CountingSort", name := "byRank", desc := "([I[II)[I" } : Jvm.MethodName) prog_69_method_2_code (9 : Nat) (Option.some (Jvm.ClassFile.FieldType.array Jvm.ClassFile.FieldType.int)), Jvm.Cond.code ({ cls := "com/example/margrave/margrave/engine/CountingSortByRankPinLaw", name := "placed", desc := "([I[I[III)Z" } : Jvm.MethodName) method_3_code (5 : Nat) (Option.some Jvm.ClassFile.FieldType.boolean), Jvm.Cond.code ({ cls := "com/example/margrave/margrave/engine/CountingSortByRankPinLaw", name := "dest", desc := "([I[III)I" } : Jvm.MethodName) method_4_code (5 : Nat) (Option.some Jvm.ClassFile.FieldType.int), Jvm.Cond.code ({ cls := "com/example/margrave/margrave/engine/CountingSortByRankPinLaw", name := "before", desc := "([I[IIIII)I" } : Jvm.MethodName) method_5_code (7 : Nat) (Option.some Jvm.ClassFile.FieldType.int)]
set_option maxRecDepth 65536 in
theorem codes_eq : words1.filter isCode = codes1 := rfl
theorem w_codes : ∀ c ∈ words1.filter isCode, c.before args0 about1 = true := by
  rw [codes_eq]
  intro c hc
  simp only [codes1, List.mem_cons, List.not_mem_nil, or_false] at hc
  rcases hc with rfl | rfl | rfl | rfl | rfl
  · exact w_c0
  · exact w_c1
  · exact w_c2
  · exact w_c3
  · exact w_c4
set_option maxRecDepth 65536 in
theorem w_t1 : words1.all (fun c => isCode c || c.before args0 about1) = true := by decide +kernel
theorem w_tables : (allAtoms (Jvm.Cond.code x code maxLocals ret :: tables_1)).before args0 about1 = true := by
  rw [allAtoms_all]
  show words1.all (fun c => c.before args0 about1) = true
  refine all_split ?_ w_codes
  rw [w_t1]
set_option maxRecDepth 65536 in
theorem w_case : (Jvm.Cond.and given_1 narrow_1).before args0 about1 = true := by decide +kernel
theorem w_applies : (headSpec (Jvm.Cond.code x code maxLocals ret :: tables_1) room_1).applies x e0.platform about1 = true :=
  (Spec.applies_iff w_frames).mpr ⟨w_running, w_runnable, w_alone, w_named, w_hears, w_ripe, w_room, w_tables⟩
theorem atStart : AtStart classFile x code maxLocals ret World_1 tables_1 room_1 Calls_1 rest_1 Pre_1 launch0 p0 e0 about1 theMethod args0 below0 :=
  ⟨lists_1, trivial, launch0.admits_env _ _ _, launch0.least_env, fairChoices_fair.cas, fairChoices_fair.clock, w_frames, w_args, w_heap, w_applies, trivial, trivial, w_case⟩
end start1
theorem witness_1 : WitnessClaimed_1 := ⟨start1.p0, start1.e0, start1.about1, start1.theMethod, start1.args0, start1.below0, start1.atStart⟩
end Jvm.Pilot.@@N@@
