import JvmDerived
import JvmDerived.Pilot.@@N@@Statement
import JvmDerived.Pilot.@@N@@Code
set_option linter.unusedVariables false
set_option linter.unusedSimpArgs false
namespace Jvm.OwnW
open Sem ClassFile Op Lib Jvm.Stand Jvm.Free Jvm.LawKit Jvm.RoadKit
/-- what is left to be shown of a walk that stands at S: it comes back, Q holds, the frame holds -/
def Wp (p : Program) (e : Env) (s : State) (below : List Frame) (Q : Option Value → Heap → List Loc → Prop) (kc ks : Nat) (S : State) : Prop :=
  ∃ s₂ o, Steps p.tables e below S s₂ ∧ s₂.status = .running ∧ Ended s₂ below o ∧ ∃ v L, o = .returned v ∧ Q v s₂.heap L ∧ FrameEnd s o s₂ L kc ks
/-- a method's contract at given arguments and a given heap -/
def Con (l : Launch) (Z : State) (y : MethodName) (bytes : ByteArray) (maxL : Nat) (ret : Option FieldType) (ws : List Jvm.Cond) (rm : Room) (as' : Array Value) (h0 : Heap) (Q : Option Value → Heap → List Loc → Prop) : Prop :=
  MetFree l y (head1 (Jvm.Cond.code y bytes maxL ret :: ws) rm) (fun a U => a = as' ∧ Z.Warmed39 U.vm ∧ U.heap = h0) (fun _ _ _ _ _ => True) (fun _ U o U' => ∃ v L, o = .returned v ∧ Q v U'.heap L ∧ FrameEnd U o U' L rm.cells rm.slots)
/-- an array: its kind, length, and what each place holds -/
def IArr (Z : State) (h : Heap) (a : Addr) (ty : FieldType) (n : Nat) (f : Nat → Value) : Prop := ∃ c : Cell, Arr Z h a c ty ∧ c.slots.size = n ∧ ∀ j, j < n → c.slots[j]? = some (f j)
def upd (f : Nat → Value) (i : Nat) (v : Value) : Nat → Value := fun k => if k = i then v else f k
theorem upd_same (f : Nat → Value) (i : Nat) (v : Value) : upd f i v i = v := by simp [upd]
theorem upd_ne {f : Nat → Value} {i k : Nat} {v : Value} (q : k ≠ i) : upd f i v k = f k := by simp [upd, q]
section W
variable {p : Program} {l : Launch} {e : Env} {R : Room} {s : State} {m : MethodId} {args : Array Value} {below : List Frame} {meth : Method} {c : Code} {T : State} {locs : List Loc} {cells slots : Nat} {Q : Option Value → Heap → List Loc → Prop} {kc ks : Nat} {Z : State} {a0 : Array Value} {h h' : Heap} {pc : Nat} {Ls : Array Slot} {st rest : List Value} {a b : Addr} {n : Nat} {f : Nat → Value} {ty : FieldType}
theorem IArr.lt (A : IArr Z h a ty n f) : a < h.size := by obtain ⟨c, A, -⟩ := A; exact A.lt
theorem IArr.ext (A : IArr Z h a ty n f) (E : Ext h h') : IArr Z h' a ty n f := by obtain ⟨c, A, r⟩ := A; exact ⟨c, A.ext E, r⟩
theorem IArr.other {sl : Nat} {v : Value} (A : IArr Z h b ty n f) (W : Wr h h' a sl v) (q : b ≠ a) : IArr Z h' b ty n f := by obtain ⟨c, A, r⟩ := A; exact ⟨c, A.other W q, r⟩
theorem IArr.keep {ws : List Addr} (A : IArr Z h a ty n f) (K : Keep h h' ws) (q : a ∉ ws) : IArr Z h' a ty n f := by obtain ⟨c, A, r⟩ := A; exact ⟨c, ⟨K.2.1 a c A.1 q, A.2⟩, r⟩
theorem IArr.same {i : Nat} {v : Value} (A : IArr Z h a ty n f) (W : Wr h h' a i v) : IArr Z h' a ty n (upd f i v) := by
  obtain ⟨c, A, S, H⟩ := A
  refine ⟨_, A.same W, by rw [sz_set]; exact S, fun j hj => ?_⟩
  unfold upd Cell.setSlot
  dsimp only
  split
  · rename_i q; subst q
    rw [Array.getElem?_setIfInBounds_self_of_lt (by omega)]
  · rename_i q
    rw [Array.getElem?_setIfInBounds_ne (Ne.symm q)]; exact H j hj
theorem IArr.fresh {cA : ClassId} {z : Int32} {k : Nat} (A : Arr Z h a (newA cA ty z) ty) (q : z.toNatClampNeg = k) : IArr Z h a ty k (fun _ => defaultValue ty) :=
  ⟨_, A, by rw [sz_new]; exact q, fun j hj => by subst q; simp [newA, hj]⟩
theorem IArr.cong {g : Nat → Value} (A : IArr Z h a ty n f) (q : ∀ j, j < n → g j = f j) : IArr Z h a ty n g := by
  obtain ⟨c, A, S, H⟩ := A; exact ⟨c, A, S, fun j hj => by rw [H j hj, q j hj]⟩
theorem nat_of {j : Int32} {i : Nat} (hj : j.toInt = (i : Int)) : ¬ j < 0 ∧ j.toNatClampNeg = i := by
  refine ⟨?_, ?_⟩
  · rw [Int32.lt_iff_toInt_lt, hj]; show ¬ (i : Int) < 0; omega
  · show j.toInt.toNat = i; rw [hj]; rfl
theorem fr1 {k : Nat} {a : Addr} {i : Nat} (q : k ≤ a) : Fr k [⟨a, i⟩] := fun y hy => by cases List.mem_singleton.mp hy; exact q
theorem own_and (x M : Int32) (hM : 0 ≤ M.toInt) : ∃ n : Nat, (n : Int) ≤ M.toInt ∧ (x &&& M).toInt = (n : Int) := by
  have h1 : (x &&& M).toBitVec.toNat ≤ M.toBitVec.toNat := by rw [Int32.toBitVec_and, BitVec.toNat_and]; exact Nat.and_le_right
  have h2 : M.toInt = if 2 * M.toBitVec.toNat < 2 ^ 32 then (M.toBitVec.toNat : Int) else (M.toBitVec.toNat : Int) - (2 ^ 32 : Nat) := BitVec.toInt_eq_toNat_cond _
  have h3 : (x &&& M).toInt = if 2 * (x &&& M).toBitVec.toNat < 2 ^ 32 then ((x &&& M).toBitVec.toNat : Int) else ((x &&& M).toBitVec.toNat : Int) - (2 ^ 32 : Nat) := BitVec.toInt_eq_toNat_cond _
  have h4 := M.toBitVec.isLt
  refine ⟨(x &&& M).toBitVec.toNat, ?_, ?_⟩
  · split at h2 <;> omega
  · split at h2 <;> split at h3 <;> omega
theorem own_rem {x y : Int32} (hx : 0 ≤ x.toInt) (hy : 0 < y.toInt) : ∃ n : Nat, (n : Int) < y.toInt ∧ (x % y).toInt = (n : Int) ∧ (n : Int) = x.toInt % y.toInt := by
  have h1 : (x % y).toInt = x.toInt.tmod y.toInt := Int32.toInt_mod _ _
  rw [Int.tmod_eq_emod_of_nonneg hx] at h1
  have h2 := Int.emod_nonneg x.toInt (Int.ne_of_gt hy)
  have h3 := Int.emod_lt_of_pos x.toInt hy
  exact ⟨(x.toInt % y.toInt).toNat, by omega, by omega, by omega⟩
theorem own_add {x y : Int32} (h1 : -2147483648 ≤ x.toInt + y.toInt) (h2 : x.toInt + y.toInt < 2147483648) : (x + y).toInt = x.toInt + y.toInt := by
  have a := c_iadd x y
  have r := rng32 (x + y)
  omega
theorem own_sub {x y : Int32} (h1 : -2147483648 ≤ x.toInt - y.toInt) (h2 : x.toInt - y.toInt < 2147483648) : (x - y).toInt = x.toInt - y.toInt := by
  have a := c_isub x y
  have r := rng32 (x - y)
  omega
theorem own_ofNat {n : Nat} (h : n < 2147483648) : (Int32.ofNat n).toInt = (n : Int) := Int32.toInt_ofNat_of_lt h
theorem own_ieq {x : Int32} {n : Nat} (h : x.toInt = (n : Int)) : x = Int32.ofNat n := by
  have r := rng32 x
  apply Int32.toInt_inj.mp; rw [h, own_ofNat (by omega)]
theorem Wp.step {S S' : State} (f : ∀ t, Steps p.tables e below S' t → Steps p.tables e below S t) (k : Wp p e s below Q kc ks S') : Wp p e s below Q kc ks S := by
  obtain ⟨s₂, o, h1, r⟩ := k
  exact ⟨s₂, o, f _ h1, r⟩
theorem Wp.chain {S S' : State} (f : Steps p.tables e below S S') (k : Wp p e s below Q kc ks S') : Wp p e s below Q kc ks S := by
  obtain ⟨s₂, o, h1, r⟩ := k
  exact ⟨s₂, o, f.trans h1, r⟩
theorem Wp.cast {S S' : State} (q : S = S') (k : Wp p e s below Q kc ks S') : Wp p e s below Q kc ks S := q ▸ k
theorem Wp.enter {g g' : JFrame} (q : g = g') (k : Wp p e s below Q kc ks (T.setTop g')) : Wp p e s below Q kc ks (T.setTop g) := q ▸ k
theorem Wp.mono {S : State} {Q' : Option Value → Heap → List Loc → Prop} {kc' ks' : Nat} (k : Wp p e s below Q' kc' ks' S) (hq : ∀ v h L, Q' v h L → Q v h L) (h1 : kc' ≤ kc) (h2 : ks' ≤ ks) : Wp p e s below Q kc ks S := by
  obtain ⟨s₂, o, g1, g2, g3, v, L, g4, g5, g6, g7, g8⟩ := k
  exact ⟨s₂, o, g1, g2, g3, v, L, g4, hq _ _ _ g5, g6, g7, g8.mono h1 h2⟩
theorem Con.of {y : MethodName} {bytes : ByteArray} {maxL : Nat} {ret : Option FieldType} {ws : List Jvm.Cond} {rm : Room} {as' : Array Value} (hpn : plainFor y = true)
    (w : ∀ p e s m below meth c s₁, p.tables.exec = Jvm.exec → c.code = bytes → c.maxLocals = maxL → s.vm.findClass y.cls = some m.cls → meth.name = y.name → meth.sig.returnType = ret → meth.locks = false → Z.Warmed39 s.vm → Stand p l e rm s m as' below meth c s₁ [] 0 0 → s₁.heap = h → Wp p e s below Q rm.cells rm.slots (s₁.setTop (entryFrame m as' maxL))) :
    Con l Z y bytes maxL ret ws rm as' h Q := by
  refine MetFree.of_bodySF hpn hisR ?_
  intro p e s m args below meth c s₁ Bd hml0 hP hK
  obtain ⟨rfl, hZ, hh⟩ := hP
  exact w p e s m below meth c s₁ Bd.exec Bd.bytes hml0 (findClass_of_methodNamed Bd.named) (name_of_methodNamed Bd.named Bd.method).1 Bd.returns (BodyLoose.notSynchronized Bd) hZ (Stand.of_body Bd) (by rw [← hh, Bd.state]; rfl)
theorem Con.mono {y : MethodName} {bytes : ByteArray} {maxL : Nat} {ret : Option FieldType} {ws : List Jvm.Cond} {rm : Room} {as' : Array Value} {Q' : Option Value → Heap → List Loc → Prop} (k : Con l Z y bytes maxL ret ws rm as' h Q') (hq : ∀ v h L, Q' v h L → Q v h L) : Con l Z y bytes maxL ret ws rm as' h Q := by
  intro p e h1 h2 h3 s m args below h4 h5 h6 h7
  obtain ⟨n, o, g1, g2, g3, v, L, g4, g5, g6⟩ := k p e h1 h2 h3 s m args below h4 h5 h6 h7
  exact ⟨n, o, g1, g2, g3, v, L, g4, hq _ _ _ g5, g6⟩
/-! the ends -/
theorem Wp.done (X : Stand p l e R s m args below meth c T locs cells slots) (hlk : meth.locks = false) {v : Option Value} (hv : meth.sig.returnType = none → v = none)
    (stp : ∀ fs, (∀ (f : JFrame) (acts : List Action), f.method = m → f.locked = none → f.entered = [] → (doReturn e (T.setTop f) acts v).1 = T.setFrames fs) → Steps p.tables e below (T.setTop (mkF m pc Ls st)) (T.setFrames fs))
    (hQ : Q v T.heap locs) (hc : cells ≤ kc) (hs : slots ≤ ks) : Wp p e s below Q kc ks (T.setTop (mkF m pc Ls st)) := by
  obtain ⟨fs, hr, hrun, hended, hW, hsame⟩ := X.leave (v := v) hv hlk
  exact ⟨_, _, stp fs hr, hrun, hended, v, locs, rfl, hQ, ⟨_, rfl⟩, hW, hsame.mono hc hs⟩
theorem W.iret (X : Stand p l e R s m args below meth c T locs cells slots) (hx : p.tables.exec = Jvm.exec) (hlk : meth.locks = false) (hret : meth.sig.returnType = some .int) (hd : decode c.code pc = .ok (.ireturn, 1)) {z : Int32} (hc : cells ≤ kc) (hs : slots ≤ ks) (hQ : Q (some (.int z)) T.heap locs) : Wp p e s below Q kc ks (T.setTop (mkF m pc Ls (.int z :: rest))) :=
  Wp.done X hlk (fun h => by rw [hret] at h; cases h) (fun fs hr => retOut X hx hret rfl (Or.inl ⟨rfl, Or.inl rfl, _, rfl⟩) hd hr) hQ hc hs
theorem W.nret (X : Stand p l e R s m args below meth c T locs cells slots) (hx : p.tables.exec = Jvm.exec) (hlk : meth.locks = false) {t : FieldType} (hret : meth.sig.returnType = some t) (ht : t = .boolean ∨ t = .byte ∨ t = .char ∨ t = .short) (hd : decode c.code pc = .ok (.ireturn, 1)) {z : Int32} (hc : cells ≤ kc) (hs : slots ≤ ks) (hQ : Q (some (.int (nar t z))) T.heap locs) : Wp p e s below Q kc ks (T.setTop (mkF m pc Ls (.int z :: rest))) :=
  Wp.done X hlk (fun h => by rw [hret] at h; cases h) (fun fs hr => retN X hx hret ht hd hr) hQ hc hs
theorem W.lret (X : Stand p l e R s m args below meth c T locs cells slots) (hx : p.tables.exec = Jvm.exec) (hlk : meth.locks = false) (hret : meth.sig.returnType = some .long) (hd : decode c.code pc = .ok (.lreturn, 1)) {z : Int64} (hc : cells ≤ kc) (hs : slots ≤ ks) (hQ : Q (some (.long z)) T.heap locs) : Wp p e s below Q kc ks (T.setTop (mkF m pc Ls (.long z :: rest))) :=
  Wp.done X hlk (fun h => by rw [hret] at h; cases h) (fun fs hr => retOut X hx hret rfl (Or.inr (Or.inl ⟨rfl, rfl, _, rfl⟩)) hd hr) hQ hc hs
theorem W.dret (X : Stand p l e R s m args below meth c T locs cells slots) (hx : p.tables.exec = Jvm.exec) (hlk : meth.locks = false) (hret : meth.sig.returnType = some .double) (hd : decode c.code pc = .ok (.dreturn, 1)) {z : UInt64} (hc : cells ≤ kc) (hs : slots ≤ ks) (hQ : Q (some (.double z)) T.heap locs) : Wp p e s below Q kc ks (T.setTop (mkF m pc Ls (.double z :: rest))) :=
  Wp.done X hlk (fun h => by rw [hret] at h; cases h) (fun fs hr => retOut X hx hret rfl (Or.inr (Or.inr (Or.inl ⟨rfl, rfl, _, rfl⟩))) hd hr) hQ hc hs
theorem W.aret (X : Stand p l e R s m args below meth c T locs cells slots) (hx : p.tables.exec = Jvm.exec) (hlk : meth.locks = false) {t : FieldType} (hret : meth.sig.returnType = some t) (ht : t.isReference = true) {w : Value} (hw : w.isRef = true) (hd : decode c.code pc = .ok (.areturn, 1)) (hc : cells ≤ kc) (hs : slots ≤ ks) (hQ : Q (some w) T.heap locs) : Wp p e s below Q kc ks (T.setTop (mkF m pc Ls (w :: rest))) :=
  Wp.done X hlk (fun h => by rw [hret] at h; cases h) (fun fs hr => retOut X hx hret (by rcases ref_cases hw with rfl | ⟨z, rfl⟩ <;> cases t <;> first | rfl | cases ht) (Or.inr (Or.inr (Or.inr (Or.inr ⟨rfl, ht, hw⟩)))) hd hr) hQ hc hs
theorem W.vret (X : Stand p l e R s m args below meth c T locs cells slots) (hx : p.tables.exec = Jvm.exec) (hlk : meth.locks = false) (hret : meth.sig.returnType = none) (hd : decode c.code pc = .ok (.return_, 1)) (hc : cells ≤ kc) (hs : slots ≤ ks) (hQ : Q none T.heap locs) : Wp p e s below Q kc ks (T.setTop (mkF m pc Ls [])) :=
  Wp.done X hlk (fun _ => rfl) (fun fs hr => X.returnOut hx hret hd hr) hQ hc hs
/-! plain steps -/
theorem W.iconst (X : Stand p l e R s m args below meth c T locs cells slots) (hx : p.tables.exec = Jvm.exec) {i : Int} (pc' : Nat) (v : Int32) (hd : decode c.code pc = .ok (.iconst i, 1)) (hv : Int32.ofInt i = v) (hp : pc + 1 = pc') (K : Wp p e s below Q kc ks (T.setTop (mkF m pc' Ls (.int v :: st)))) : Wp p e s below Q kc ks (T.setTop (mkF m pc Ls st)) := by
  subst hp hv; exact Wp.step (fun _ k => XS.iconst X.here hx rfl hd k) K
theorem W.bipush (X : Stand p l e R s m args below meth c T locs cells slots) (hx : p.tables.exec = Jvm.exec) {i : Int} (pc' : Nat) (v : Int32) (hd : decode c.code pc = .ok (.bipush i, 2)) (hv : (Int8.ofInt i).toInt32 = v) (hp : pc + 2 = pc') (K : Wp p e s below Q kc ks (T.setTop (mkF m pc' Ls (.int v :: st)))) : Wp p e s below Q kc ks (T.setTop (mkF m pc Ls st)) := by
  subst hp hv; exact Wp.step (fun _ k => XS.bipush X.here hx rfl hd k) K
theorem W.sipush (X : Stand p l e R s m args below meth c T locs cells slots) (hx : p.tables.exec = Jvm.exec) {i : Int} (pc' : Nat) (v : Int32) (hd : decode c.code pc = .ok (.sipush i, 3)) (hv : (Int16.ofInt i).toInt32 = v) (hp : pc + 3 = pc') (K : Wp p e s below Q kc ks (T.setTop (mkF m pc' Ls (.int v :: st)))) : Wp p e s below Q kc ks (T.setTop (mkF m pc Ls st)) := by
  subst hp hv; exact Wp.step (fun _ k => XS.sipush X.here hx rfl hd k) K
theorem W.lconst (X : Stand p l e R s m args below meth c T locs cells slots) (hx : p.tables.exec = Jvm.exec) {i : Fin 2} (pc' : Nat) (v : Int64) (hd : decode c.code pc = .ok (.lconst i, 1)) (hv : (Int64.ofNat i) = v) (hp : pc + 1 = pc') (K : Wp p e s below Q kc ks (T.setTop (mkF m pc' Ls (.long v :: st)))) : Wp p e s below Q kc ks (T.setTop (mkF m pc Ls st)) := by
  subst hp hv; exact Wp.step (fun _ k => XT.lconst X.here hx rfl hd k) K
theorem W.anull (X : Stand p l e R s m args below meth c T locs cells slots) (hx : p.tables.exec = Jvm.exec) (pc' : Nat) (hd : decode c.code pc = .ok (.aconst_null, 1)) (hp : pc + 1 = pc') (K : Wp p e s below Q kc ks (T.setTop (mkF m pc' Ls (.null :: st)))) : Wp p e s below Q kc ks (T.setTop (mkF m pc Ls st)) := by
  subst hp; exact Wp.step (fun _ k => XS.aconstNull X.here hx rfl hd k) K
theorem W.ldcI (X : Stand p l e R s m args below meth c T locs cells slots) (hx : p.tables.exec = Jvm.exec) (hZ : Z.Warmed39 s.vm) {own : String} {index : Nat} {v : Int32} (pc' : Nat) (hown : s.vm.findClass own = some m.cls) (w : (Jvm.Cond.constant own index v).before a0 Z = true) (hd : decode c.code pc = .ok (.ldc index, 2)) (hp : pc + 2 = pc') (K : Wp p e s below Q kc ks (T.setTop (mkF m pc' Ls (.int v :: st)))) : Wp p e s below Q kc ks (T.setTop (mkF m pc Ls st)) := by
  subst hp; exact Wp.step (fun t k => X.ldcInt hx hown (mvT hZ w) (g := mkF m pc Ls st) rfl hd t k) K
theorem W.ldcL (X : Stand p l e R s m args below meth c T locs cells slots) (hx : p.tables.exec = Jvm.exec) (hZ : Z.Warmed39 s.vm) {own : String} {index : Nat} {v : Int64} (pc' : Nat) (hown : s.vm.findClass own = some m.cls) (w : (Jvm.Cond.constantLong own index v).before a0 Z = true) (hd : decode c.code pc = .ok (.ldc2_w index, 3)) (hp : pc + 3 = pc') (K : Wp p e s below Q kc ks (T.setTop (mkF m pc' Ls (.long v :: st)))) : Wp p e s below Q kc ks (T.setTop (mkF m pc Ls st)) := by
  subst hp; exact Wp.step (fun t k => X.ldc2Long hx hown (mvT hZ w) (g := mkF m pc Ls st) rfl hd t k) K
theorem W.iloadN (X : Stand p l e R s m args below meth c T locs cells slots) (hx : p.tables.exec = Jvm.exec) {k : Fin 4} {x : Int32} (pc' : Nat) (hd : decode c.code pc = .ok (.iload_n k, 1)) (hl : Ls[k.val]? = some (.val (.int x))) (hp : pc + 1 = pc') (K : Wp p e s below Q kc ks (T.setTop (mkF m pc' Ls (.int x :: st)))) : Wp p e s below Q kc ks (T.setTop (mkF m pc Ls st)) := by
  subst hp; exact Wp.step (fun _ k => XS.iloadN X.here hx rfl hd hl k) K
theorem W.iload (X : Stand p l e R s m args below meth c T locs cells slots) (hx : p.tables.exec = Jvm.exec) {k : Nat} {x : Int32} (pc' : Nat) (hd : decode c.code pc = .ok (.iload k, 2)) (hl : Ls[k]? = some (.val (.int x))) (hp : pc + 2 = pc') (K : Wp p e s below Q kc ks (T.setTop (mkF m pc' Ls (.int x :: st)))) : Wp p e s below Q kc ks (T.setTop (mkF m pc Ls st)) := by
  subst hp; exact Wp.step (fun _ k => XS.iload X.here hx rfl hd hl k) K
theorem W.aloadN (X : Stand p l e R s m args below meth c T locs cells slots) (hx : p.tables.exec = Jvm.exec) {k : Fin 4} {x : Value} (pc' : Nat) (hd : decode c.code pc = .ok (.aload_n k, 1)) (hl : Ls[k.val]? = some (.val x)) (hr : x.isRef = true) (hp : pc + 1 = pc') (K : Wp p e s below Q kc ks (T.setTop (mkF m pc' Ls (x :: st)))) : Wp p e s below Q kc ks (T.setTop (mkF m pc Ls st)) := by
  subst hp; exact Wp.step (fun _ k => XS.aloadN X.here hx rfl hd hl hr k) K
theorem W.aload (X : Stand p l e R s m args below meth c T locs cells slots) (hx : p.tables.exec = Jvm.exec) {k : Nat} {x : Value} (pc' : Nat) (hd : decode c.code pc = .ok (.aload k, 2)) (hl : Ls[k]? = some (.val x)) (hr : x.isRef = true) (hp : pc + 2 = pc') (K : Wp p e s below Q kc ks (T.setTop (mkF m pc' Ls (x :: st)))) : Wp p e s below Q kc ks (T.setTop (mkF m pc Ls st)) := by
  subst hp; exact Wp.step (fun _ k => XS.aload X.here hx rfl hd hl hr k) K
theorem W.lloadN (X : Stand p l e R s m args below meth c T locs cells slots) (hx : p.tables.exec = Jvm.exec) {k : Fin 4} {x : Int64} (pc' : Nat) (hd : decode c.code pc = .ok (.lload_n k, 1)) (hl : Ls[k.val]? = some (.val (.long x))) (hp : pc + 1 = pc') (K : Wp p e s below Q kc ks (T.setTop (mkF m pc' Ls (.long x :: st)))) : Wp p e s below Q kc ks (T.setTop (mkF m pc Ls st)) := by
  subst hp; exact Wp.step (fun _ k => XS.lloadN X.here hx rfl hd hl k) K
theorem W.lload (X : Stand p l e R s m args below meth c T locs cells slots) (hx : p.tables.exec = Jvm.exec) {k : Nat} {x : Int64} (pc' : Nat) (hd : decode c.code pc = .ok (.lload k, 2)) (hl : Ls[k]? = some (.val (.long x))) (hp : pc + 2 = pc') (K : Wp p e s below Q kc ks (T.setTop (mkF m pc' Ls (.long x :: st)))) : Wp p e s below Q kc ks (T.setTop (mkF m pc Ls st)) := by
  subst hp; exact Wp.step (fun _ k => XS.lload X.here hx rfl hd hl k) K
theorem W.istoreN (X : Stand p l e R s m args below meth c T locs cells slots) (hx : p.tables.exec = Jvm.exec) {k : Fin 4} {x : Int32} (pc' : Nat) (l' : Array Slot) (hd : decode c.code pc = .ok (.istore_n k, 1)) (hl : storeLocals Ls k.val (.int x) = some l') (hp : pc + 1 = pc') (K : Wp p e s below Q kc ks (T.setTop (mkF m pc' l' st))) : Wp p e s below Q kc ks (T.setTop (mkF m pc Ls (.int x :: st))) := by
  subst hp; exact Wp.step (fun _ k => XS.istoreN X.here hx rfl hd rfl hl k) K
theorem W.istore (X : Stand p l e R s m args below meth c T locs cells slots) (hx : p.tables.exec = Jvm.exec) {k : Nat} {x : Int32} (pc' : Nat) (l' : Array Slot) (hd : decode c.code pc = .ok (.istore k, 2)) (hl : storeLocals Ls k (.int x) = some l') (hp : pc + 2 = pc') (K : Wp p e s below Q kc ks (T.setTop (mkF m pc' l' st))) : Wp p e s below Q kc ks (T.setTop (mkF m pc Ls (.int x :: st))) := by
  subst hp; exact Wp.step (fun _ k => XS.istore X.here hx rfl hd rfl hl k) K
theorem W.astoreN (X : Stand p l e R s m args below meth c T locs cells slots) (hx : p.tables.exec = Jvm.exec) {k : Fin 4} {x : Value} (pc' : Nat) (l' : Array Slot) (hd : decode c.code pc = .ok (.astore_n k, 1)) (hr : x.isRef = true) (hl : storeLocals Ls k.val x = some l') (hp : pc + 1 = pc') (K : Wp p e s below Q kc ks (T.setTop (mkF m pc' l' st))) : Wp p e s below Q kc ks (T.setTop (mkF m pc Ls (x :: st))) := by
  subst hp; exact Wp.step (fun _ k => XS.astoreN X.here hx rfl hd rfl hr hl k) K
theorem W.astore (X : Stand p l e R s m args below meth c T locs cells slots) (hx : p.tables.exec = Jvm.exec) {k : Nat} {x : Value} (pc' : Nat) (l' : Array Slot) (hd : decode c.code pc = .ok (.astore k, 2)) (hr : x.isRef = true) (hl : storeLocals Ls k x = some l') (hp : pc + 2 = pc') (K : Wp p e s below Q kc ks (T.setTop (mkF m pc' l' st))) : Wp p e s below Q kc ks (T.setTop (mkF m pc Ls (x :: st))) := by
  subst hp; exact Wp.step (fun _ k => XS.astore X.here hx rfl hd rfl hr hl k) K
theorem W.lstoreN (X : Stand p l e R s m args below meth c T locs cells slots) (hx : p.tables.exec = Jvm.exec) {k : Fin 4} {x : Int64} (pc' : Nat) (l' : Array Slot) (hd : decode c.code pc = .ok (.lstore_n k, 1)) (hl : storeLocals Ls k.val (.long x) = some l') (hp : pc + 1 = pc') (K : Wp p e s below Q kc ks (T.setTop (mkF m pc' l' st))) : Wp p e s below Q kc ks (T.setTop (mkF m pc Ls (.long x :: st))) := by
  subst hp; exact Wp.step (fun _ k => XS.lstoreN X.here hx rfl hd rfl hl k) K
theorem W.lstore (X : Stand p l e R s m args below meth c T locs cells slots) (hx : p.tables.exec = Jvm.exec) {k : Nat} {x : Int64} (pc' : Nat) (l' : Array Slot) (hd : decode c.code pc = .ok (.lstore k, 2)) (hl : storeLocals Ls k (.long x) = some l') (hp : pc + 2 = pc') (K : Wp p e s below Q kc ks (T.setTop (mkF m pc' l' st))) : Wp p e s below Q kc ks (T.setTop (mkF m pc Ls (.long x :: st))) := by
  subst hp; exact Wp.step (fun _ k => XS.lstore X.here hx rfl hd rfl hl k) K
theorem W.iinc (X : Stand p l e R s m args below meth c T locs cells slots) (hx : p.tables.exec = Jvm.exec) {k : Nat} {i : Int} {x : Int32} (pc' : Nat) (v : Int32) (l' : Array Slot) (hd : decode c.code pc = .ok (.iinc k i, 3)) (hv : Int32.ofInt i = v) (hl : Ls[k]? = some (.val (.int x))) (hl' : storeLocals Ls k (.int (x + v)) = some l') (hp : pc + 3 = pc') (K : Wp p e s below Q kc ks (T.setTop (mkF m pc' l' st))) : Wp p e s below Q kc ks (T.setTop (mkF m pc Ls st)) := by
  subst hp hv; exact Wp.step (fun _ k => XS.iinc X.here hx rfl hd hl hl' k) K
theorem W.iadd (X : Stand p l e R s m args below meth c T locs cells slots) (hx : p.tables.exec = Jvm.exec) {x y : Int32} (pc' : Nat) (hd : decode c.code pc = .ok (.iadd, 1)) (hp : pc + 1 = pc') (K : Wp p e s below Q kc ks (T.setTop (mkF m pc' Ls (.int (x + y) :: st)))) : Wp p e s below Q kc ks (T.setTop (mkF m pc Ls (.int y :: .int x :: st))) := by
  subst hp; exact Wp.step (fun _ k => XS.iadd X.here hx rfl hd rfl k) K
theorem W.ladd (X : Stand p l e R s m args below meth c T locs cells slots) (hx : p.tables.exec = Jvm.exec) {x y : Int64} (pc' : Nat) (hd : decode c.code pc = .ok (.ladd, 1)) (hp : pc + 1 = pc') (K : Wp p e s below Q kc ks (T.setTop (mkF m pc' Ls (.long (x + y) :: st)))) : Wp p e s below Q kc ks (T.setTop (mkF m pc Ls (.long y :: .long x :: st))) := by
  subst hp; exact Wp.step (fun _ k => XS.ladd X.here hx rfl hd rfl k) K
theorem W.isub (X : Stand p l e R s m args below meth c T locs cells slots) (hx : p.tables.exec = Jvm.exec) {x y : Int32} (pc' : Nat) (hd : decode c.code pc = .ok (.isub, 1)) (hp : pc + 1 = pc') (K : Wp p e s below Q kc ks (T.setTop (mkF m pc' Ls (.int (x - y) :: st)))) : Wp p e s below Q kc ks (T.setTop (mkF m pc Ls (.int y :: .int x :: st))) := by
  subst hp; exact Wp.step (fun _ k => XS.isub X.here hx rfl hd rfl k) K
theorem W.lsub (X : Stand p l e R s m args below meth c T locs cells slots) (hx : p.tables.exec = Jvm.exec) {x y : Int64} (pc' : Nat) (hd : decode c.code pc = .ok (.lsub, 1)) (hp : pc + 1 = pc') (K : Wp p e s below Q kc ks (T.setTop (mkF m pc' Ls (.long (x - y) :: st)))) : Wp p e s below Q kc ks (T.setTop (mkF m pc Ls (.long y :: .long x :: st))) := by
  subst hp; exact Wp.step (fun _ k => XS.lsub X.here hx rfl hd rfl k) K
theorem W.imul (X : Stand p l e R s m args below meth c T locs cells slots) (hx : p.tables.exec = Jvm.exec) {x y : Int32} (pc' : Nat) (hd : decode c.code pc = .ok (.imul, 1)) (hp : pc + 1 = pc') (K : Wp p e s below Q kc ks (T.setTop (mkF m pc' Ls (.int (x * y) :: st)))) : Wp p e s below Q kc ks (T.setTop (mkF m pc Ls (.int y :: .int x :: st))) := by
  subst hp; exact Wp.step (fun _ k => XS.imul X.here hx rfl hd rfl k) K
theorem W.lmul (X : Stand p l e R s m args below meth c T locs cells slots) (hx : p.tables.exec = Jvm.exec) {x y : Int64} (pc' : Nat) (hd : decode c.code pc = .ok (.lmul, 1)) (hp : pc + 1 = pc') (K : Wp p e s below Q kc ks (T.setTop (mkF m pc' Ls (.long (x * y) :: st)))) : Wp p e s below Q kc ks (T.setTop (mkF m pc Ls (.long y :: .long x :: st))) := by
  subst hp; exact Wp.step (fun _ k => XS.lmul X.here hx rfl hd rfl k) K
theorem W.iand (X : Stand p l e R s m args below meth c T locs cells slots) (hx : p.tables.exec = Jvm.exec) {x y : Int32} (pc' : Nat) (hd : decode c.code pc = .ok (.iand, 1)) (hp : pc + 1 = pc') (K : Wp p e s below Q kc ks (T.setTop (mkF m pc' Ls (.int (x &&& y) :: st)))) : Wp p e s below Q kc ks (T.setTop (mkF m pc Ls (.int y :: .int x :: st))) := by
  subst hp; exact Wp.step (fun _ k => XS.iand X.here hx rfl hd rfl k) K
theorem W.land (X : Stand p l e R s m args below meth c T locs cells slots) (hx : p.tables.exec = Jvm.exec) {x y : Int64} (pc' : Nat) (hd : decode c.code pc = .ok (.land, 1)) (hp : pc + 1 = pc') (K : Wp p e s below Q kc ks (T.setTop (mkF m pc' Ls (.long (x &&& y) :: st)))) : Wp p e s below Q kc ks (T.setTop (mkF m pc Ls (.long y :: .long x :: st))) := by
  subst hp; exact Wp.step (fun _ k => XS.land X.here hx rfl hd rfl k) K
theorem W.ior (X : Stand p l e R s m args below meth c T locs cells slots) (hx : p.tables.exec = Jvm.exec) {x y : Int32} (pc' : Nat) (hd : decode c.code pc = .ok (.ior, 1)) (hp : pc + 1 = pc') (K : Wp p e s below Q kc ks (T.setTop (mkF m pc' Ls (.int (x ||| y) :: st)))) : Wp p e s below Q kc ks (T.setTop (mkF m pc Ls (.int y :: .int x :: st))) := by
  subst hp; exact Wp.step (fun _ k => XS.ior X.here hx rfl hd rfl k) K
theorem W.lor (X : Stand p l e R s m args below meth c T locs cells slots) (hx : p.tables.exec = Jvm.exec) {x y : Int64} (pc' : Nat) (hd : decode c.code pc = .ok (.lor, 1)) (hp : pc + 1 = pc') (K : Wp p e s below Q kc ks (T.setTop (mkF m pc' Ls (.long (x ||| y) :: st)))) : Wp p e s below Q kc ks (T.setTop (mkF m pc Ls (.long y :: .long x :: st))) := by
  subst hp; exact Wp.step (fun _ k => XS.lor X.here hx rfl hd rfl k) K
theorem W.ixor (X : Stand p l e R s m args below meth c T locs cells slots) (hx : p.tables.exec = Jvm.exec) {x y : Int32} (pc' : Nat) (hd : decode c.code pc = .ok (.ixor, 1)) (hp : pc + 1 = pc') (K : Wp p e s below Q kc ks (T.setTop (mkF m pc' Ls (.int (x ^^^ y) :: st)))) : Wp p e s below Q kc ks (T.setTop (mkF m pc Ls (.int y :: .int x :: st))) := by
  subst hp; exact Wp.step (fun _ k => XS.ixor X.here hx rfl hd rfl k) K
theorem W.lxor (X : Stand p l e R s m args below meth c T locs cells slots) (hx : p.tables.exec = Jvm.exec) {x y : Int64} (pc' : Nat) (hd : decode c.code pc = .ok (.lxor, 1)) (hp : pc + 1 = pc') (K : Wp p e s below Q kc ks (T.setTop (mkF m pc' Ls (.long (x ^^^ y) :: st)))) : Wp p e s below Q kc ks (T.setTop (mkF m pc Ls (.long y :: .long x :: st))) := by
  subst hp; exact Wp.step (fun _ k => XS.lxor X.here hx rfl hd rfl k) K
theorem W.ishl (X : Stand p l e R s m args below meth c T locs cells slots) (hx : p.tables.exec = Jvm.exec) {x y : Int32} (pc' : Nat) (hd : decode c.code pc = .ok (.ishl, 1)) (hp : pc + 1 = pc') (K : Wp p e s below Q kc ks (T.setTop (mkF m pc' Ls (.int (x <<< (y &&& 31)) :: st)))) : Wp p e s below Q kc ks (T.setTop (mkF m pc Ls (.int y :: .int x :: st))) := by
  subst hp; exact Wp.step (fun _ k => XS.ishl X.here hx rfl hd rfl k) K
theorem W.ishr (X : Stand p l e R s m args below meth c T locs cells slots) (hx : p.tables.exec = Jvm.exec) {x y : Int32} (pc' : Nat) (hd : decode c.code pc = .ok (.ishr, 1)) (hp : pc + 1 = pc') (K : Wp p e s below Q kc ks (T.setTop (mkF m pc' Ls (.int (x >>> (y &&& 31)) :: st)))) : Wp p e s below Q kc ks (T.setTop (mkF m pc Ls (.int y :: .int x :: st))) := by
  subst hp; exact Wp.step (fun _ k => XS.ishr X.here hx rfl hd rfl k) K
theorem W.iushr (X : Stand p l e R s m args below meth c T locs cells slots) (hx : p.tables.exec = Jvm.exec) {x y : Int32} (pc' : Nat) (hd : decode c.code pc = .ok (.iushr, 1)) (hp : pc + 1 = pc') (K : Wp p e s below Q kc ks (T.setTop (mkF m pc' Ls (.int ((x.toUInt32 >>> (y &&& 31).toUInt32).toInt32) :: st)))) : Wp p e s below Q kc ks (T.setTop (mkF m pc Ls (.int y :: .int x :: st))) := by
  subst hp; exact Wp.step (fun _ k => XS.iushr X.here hx rfl hd rfl k) K
theorem W.lshl (X : Stand p l e R s m args below meth c T locs cells slots) (hx : p.tables.exec = Jvm.exec) {x : Int64} {y : Int32} (pc' : Nat) (hd : decode c.code pc = .ok (.lshl, 1)) (hp : pc + 1 = pc') (K : Wp p e s below Q kc ks (T.setTop (mkF m pc' Ls (.long (x <<< (y &&& 0x3f).toInt64) :: st)))) : Wp p e s below Q kc ks (T.setTop (mkF m pc Ls (.int y :: .long x :: st))) := by
  subst hp; exact Wp.step (fun _ k => XS.lshl X.here hx rfl hd rfl k) K
theorem W.lshr (X : Stand p l e R s m args below meth c T locs cells slots) (hx : p.tables.exec = Jvm.exec) {x : Int64} {y : Int32} (pc' : Nat) (hd : decode c.code pc = .ok (.lshr, 1)) (hp : pc + 1 = pc') (K : Wp p e s below Q kc ks (T.setTop (mkF m pc' Ls (.long (x >>> (y &&& 0x3f).toInt64) :: st)))) : Wp p e s below Q kc ks (T.setTop (mkF m pc Ls (.int y :: .long x :: st))) := by
  subst hp; exact Wp.step (fun _ k => XS.lshr X.here hx rfl hd rfl k) K
theorem W.lushr (X : Stand p l e R s m args below meth c T locs cells slots) (hx : p.tables.exec = Jvm.exec) {x : Int64} {y : Int32} (pc' : Nat) (hd : decode c.code pc = .ok (.lushr, 1)) (hp : pc + 1 = pc') (K : Wp p e s below Q kc ks (T.setTop (mkF m pc' Ls (.long ((x.toUInt64 >>> (y &&& 0x3f).toInt64.toUInt64).toInt64) :: st)))) : Wp p e s below Q kc ks (T.setTop (mkF m pc Ls (.int y :: .long x :: st))) := by
  subst hp; exact Wp.step (fun _ k => XS.lushr X.here hx rfl hd rfl k) K
theorem W.lcmp (X : Stand p l e R s m args below meth c T locs cells slots) (hx : p.tables.exec = Jvm.exec) {x y : Int64} (pc' : Nat) (hd : decode c.code pc = .ok (.lcmp, 1)) (hp : pc + 1 = pc') (K : Wp p e s below Q kc ks (T.setTop (mkF m pc' Ls (.int (lcmpW x y) :: st)))) : Wp p e s below Q kc ks (T.setTop (mkF m pc Ls (.long y :: .long x :: st))) := by
  subst hp; exact Wp.step (fun _ k => XS.lcmp X.here hx rfl hd rfl k) K
theorem W.irem (X : Stand p l e R s m args below meth c T locs cells slots) (hx : p.tables.exec = Jvm.exec) {x y : Int32} (pc' : Nat) (hd : decode c.code pc = .ok (.irem, 1)) (hy : y ≠ 0) (hp : pc + 1 = pc') (K : Wp p e s below Q kc ks (T.setTop (mkF m pc' Ls (.int (x % y) :: st)))) : Wp p e s below Q kc ks (T.setTop (mkF m pc Ls (.int y :: .int x :: st))) := by
  subst hp; exact Wp.step (fun _ k => iremM X hx (g := mkF m pc Ls (.int y :: .int x :: st)) rfl hd rfl hy k) K
theorem W.idiv (X : Stand p l e R s m args below meth c T locs cells slots) (hx : p.tables.exec = Jvm.exec) {x y : Int32} (pc' : Nat) (hd : decode c.code pc = .ok (.idiv, 1)) (hy : y ≠ 0) (hp : pc + 1 = pc') (K : Wp p e s below Q kc ks (T.setTop (mkF m pc' Ls (.int (x / y) :: st)))) : Wp p e s below Q kc ks (T.setTop (mkF m pc Ls (.int y :: .int x :: st))) := by
  subst hp; exact Wp.step (fun _ k => XS.idiv X.here hx rfl hd rfl hy k) K
theorem W.ineg (X : Stand p l e R s m args below meth c T locs cells slots) (hx : p.tables.exec = Jvm.exec) {x : Int32} (pc' : Nat) (hd : decode c.code pc = .ok (.ineg, 1)) (hp : pc + 1 = pc') (K : Wp p e s below Q kc ks (T.setTop (mkF m pc' Ls (.int (-x) :: st)))) : Wp p e s below Q kc ks (T.setTop (mkF m pc Ls (.int x :: st))) := by
  subst hp; exact Wp.step (fun _ k => XS.ineg X.here hx rfl hd rfl k) K
theorem W.lneg (X : Stand p l e R s m args below meth c T locs cells slots) (hx : p.tables.exec = Jvm.exec) {x : Int64} (pc' : Nat) (hd : decode c.code pc = .ok (.lneg, 1)) (hp : pc + 1 = pc') (K : Wp p e s below Q kc ks (T.setTop (mkF m pc' Ls (.long (-x) :: st)))) : Wp p e s below Q kc ks (T.setTop (mkF m pc Ls (.long x :: st))) := by
  subst hp; exact Wp.step (fun _ k => XS.lneg X.here hx rfl hd rfl k) K
theorem W.i2b (X : Stand p l e R s m args below meth c T locs cells slots) (hx : p.tables.exec = Jvm.exec) {x : Int32} (pc' : Nat) (hd : decode c.code pc = .ok (.i2b, 1)) (hp : pc + 1 = pc') (K : Wp p e s below Q kc ks (T.setTop (mkF m pc' Ls (.int x.toInt8.toInt32 :: st)))) : Wp p e s below Q kc ks (T.setTop (mkF m pc Ls (.int x :: st))) := by
  subst hp; exact Wp.step (fun _ k => XS.i2b X.here hx rfl hd rfl k) K
theorem W.i2c (X : Stand p l e R s m args below meth c T locs cells slots) (hx : p.tables.exec = Jvm.exec) {x : Int32} (pc' : Nat) (hd : decode c.code pc = .ok (.i2c, 1)) (hp : pc + 1 = pc') (K : Wp p e s below Q kc ks (T.setTop (mkF m pc' Ls (.int x.toUInt32.toUInt16.toUInt32.toInt32 :: st)))) : Wp p e s below Q kc ks (T.setTop (mkF m pc Ls (.int x :: st))) := by
  subst hp; exact Wp.step (fun _ k => XS.i2c X.here hx rfl hd rfl k) K
theorem W.i2s (X : Stand p l e R s m args below meth c T locs cells slots) (hx : p.tables.exec = Jvm.exec) {x : Int32} (pc' : Nat) (hd : decode c.code pc = .ok (.i2s, 1)) (hp : pc + 1 = pc') (K : Wp p e s below Q kc ks (T.setTop (mkF m pc' Ls (.int x.toInt16.toInt32 :: st)))) : Wp p e s below Q kc ks (T.setTop (mkF m pc Ls (.int x :: st))) := by
  subst hp; exact Wp.step (fun _ k => XS.i2s X.here hx rfl hd rfl k) K
theorem W.i2l (X : Stand p l e R s m args below meth c T locs cells slots) (hx : p.tables.exec = Jvm.exec) {x : Int32} (pc' : Nat) (hd : decode c.code pc = .ok (.i2l, 1)) (hp : pc + 1 = pc') (K : Wp p e s below Q kc ks (T.setTop (mkF m pc' Ls (.long x.toInt64 :: st)))) : Wp p e s below Q kc ks (T.setTop (mkF m pc Ls (.int x :: st))) := by
  subst hp; exact Wp.step (fun _ k => XS.i2l X.here hx rfl hd rfl k) K
theorem W.l2i (X : Stand p l e R s m args below meth c T locs cells slots) (hx : p.tables.exec = Jvm.exec) {x : Int64} (pc' : Nat) (hd : decode c.code pc = .ok (.l2i, 1)) (hp : pc + 1 = pc') (K : Wp p e s below Q kc ks (T.setTop (mkF m pc' Ls (.int x.toInt32 :: st)))) : Wp p e s below Q kc ks (T.setTop (mkF m pc Ls (.long x :: st))) := by
  subst hp; exact Wp.step (fun _ k => XS.l2i X.here hx rfl hd rfl k) K
theorem W.dup (X : Stand p l e R s m args below meth c T locs cells slots) (hx : p.tables.exec = Jvm.exec) {x : Value} (pc' : Nat) (hd : decode c.code pc = .ok (.dup, 1)) (hc : x.category = 1) (hp : pc + 1 = pc') (K : Wp p e s below Q kc ks (T.setTop (mkF m pc' Ls (x :: x :: st)))) : Wp p e s below Q kc ks (T.setTop (mkF m pc Ls (x :: st))) := by
  subst hp; exact Wp.step (fun _ k => XS.dup X.here hx rfl hd rfl hc k) K
theorem W.pop1 (X : Stand p l e R s m args below meth c T locs cells slots) (hx : p.tables.exec = Jvm.exec) {x : Value} (pc' : Nat) (hd : decode c.code pc = .ok (.pop, 1)) (hc : x.category = 1) (hp : pc + 1 = pc') (K : Wp p e s below Q kc ks (T.setTop (mkF m pc' Ls st))) : Wp p e s below Q kc ks (T.setTop (mkF m pc Ls (x :: st))) := by
  subst hp; exact Wp.step (fun _ k => XS.pop X.here hx rfl hd rfl hc k) K
theorem W.dup2 (X : Stand p l e R s m args below meth c T locs cells slots) (hx : p.tables.exec = Jvm.exec) {x y : Value} (pc' : Nat) (hd : decode c.code pc = .ok (.dup2, 1)) (hc : x.category = 1) (hc' : y.category = 1) (hp : pc + 1 = pc') (K : Wp p e s below Q kc ks (T.setTop (mkF m pc' Ls (x :: y :: x :: y :: st)))) : Wp p e s below Q kc ks (T.setTop (mkF m pc Ls (x :: y :: st))) := by
  subst hp; exact Wp.step (fun _ k => XT.dup2 X.here hx rfl hd rfl hc hc' k) K
theorem W.dupX1 (X : Stand p l e R s m args below meth c T locs cells slots) (hx : p.tables.exec = Jvm.exec) {x y : Value} (pc' : Nat) (hd : decode c.code pc = .ok (.dup_x1, 1)) (hc : x.category = 1) (hc' : y.category = 1) (hp : pc + 1 = pc') (K : Wp p e s below Q kc ks (T.setTop (mkF m pc' Ls (x :: y :: x :: st)))) : Wp p e s below Q kc ks (T.setTop (mkF m pc Ls (x :: y :: st))) := by
  subst hp; exact Wp.step (fun _ k => XS.dupX1 X.here hx rfl hd rfl hc hc' k) K
theorem W.goto (X : Stand p l e R s m args below meth c T locs cells slots) (hx : p.tables.exec = Jvm.exec) {o : Int} (pc' : Nat) (hd : decode c.code pc = .ok (.goto o, 3)) (ho : 0 ≤ (pc : Int) + o) (hp : ((pc : Int) + o).toNat = pc') (K : Wp p e s below Q kc ks (T.setTop (mkF m pc' Ls st))) : Wp p e s below Q kc ks (T.setTop (mkF m pc Ls st)) :=
  Wp.step (fun _ k => XS.goto X.here hx rfl rfl hd ho hp k) K
theorem W.icmp (X : Stand p l e R s m args below meth c T locs cells slots) (hx : p.tables.exec = Jvm.exec) {cd : ClassFile.Cond} {o : Int} {x y : Int32} (pcT pcF : Nat) (hd : decode c.code pc = .ok (.if_icmp cd o, 3)) (ho : 0 ≤ (pc : Int) + o) (hp : ((pc : Int) + o).toNat = pcT) (hq : pc + 3 = pcF) (KT : if_icmp.holds cd x y = true → Wp p e s below Q kc ks (T.setTop (mkF m pcT Ls st))) (KF : if_icmp.holds cd x y = false → Wp p e s below Q kc ks (T.setTop (mkF m pcF Ls st))) : Wp p e s below Q kc ks (T.setTop (mkF m pc Ls (.int y :: .int x :: st))) := by
  subst hq
  cases hh : if_icmp.holds cd x y
  · exact Wp.step (fun _ k => XS.icmpNo X.here hx rfl hd rfl hh k) (KF hh)
  · exact Wp.step (fun _ k => XS.icmpYes X.here hx rfl rfl hd rfl hh ho hp k) (KT hh)
theorem W.ifc (X : Stand p l e R s m args below meth c T locs cells slots) (hx : p.tables.exec = Jvm.exec) {cd : ClassFile.Cond} {o : Int} {x : Int32} (pcT pcF : Nat) (hd : decode c.code pc = .ok (.ifCond cd o, 3)) (ho : 0 ≤ (pc : Int) + o) (hp : ((pc : Int) + o).toNat = pcT) (hq : pc + 3 = pcF) (KT : if_icmp.holds cd x 0 = true → Wp p e s below Q kc ks (T.setTop (mkF m pcT Ls st))) (KF : if_icmp.holds cd x 0 = false → Wp p e s below Q kc ks (T.setTop (mkF m pcF Ls st))) : Wp p e s below Q kc ks (T.setTop (mkF m pc Ls (.int x :: st))) := by
  subst hq
  rw [← if0] at KT KF
  cases hh : ifCond.holds cd x
  · exact Wp.step (fun _ k => XS.ifNo X.here hx rfl hd rfl hh k) (KF hh)
  · exact Wp.step (fun _ k => XS.ifYes X.here hx rfl rfl hd rfl hh ho hp k) (KT hh)
theorem W.icmpEq (X : Stand p l e R s m args below meth c T locs cells slots) (hx : p.tables.exec = Jvm.exec) {o : Int} {x y : Int32} (pcT pcF : Nat) (hd : decode c.code pc = .ok (.if_icmp .eq o, 3)) (ho : 0 ≤ (pc : Int) + o) (hp : ((pc : Int) + o).toNat = pcT) (hq : pc + 3 = pcF) (KT : x = y → Wp p e s below Q kc ks (T.setTop (mkF m pcT Ls st))) (KF : ¬ x = y → Wp p e s below Q kc ks (T.setTop (mkF m pcF Ls st))) : Wp p e s below Q kc ks (T.setTop (mkF m pc Ls (.int y :: .int x :: st))) :=
  W.icmp X hx pcT pcF hd ho hp hq (fun hh => KT (Decidable.byContradiction fun q => by rw [(feq q).1] at hh; cases hh)) (fun hh => KF (fun q => by rw [(teq q).1] at hh; cases hh))
theorem W.ifEq (X : Stand p l e R s m args below meth c T locs cells slots) (hx : p.tables.exec = Jvm.exec) {o : Int} {x : Int32} (pcT pcF : Nat) (hd : decode c.code pc = .ok (.ifCond .eq o, 3)) (ho : 0 ≤ (pc : Int) + o) (hp : ((pc : Int) + o).toNat = pcT) (hq : pc + 3 = pcF) (KT : x = 0 → Wp p e s below Q kc ks (T.setTop (mkF m pcT Ls st))) (KF : ¬ x = 0 → Wp p e s below Q kc ks (T.setTop (mkF m pcF Ls st))) : Wp p e s below Q kc ks (T.setTop (mkF m pc Ls (.int x :: st))) :=
  W.ifc X hx pcT pcF hd ho hp hq (fun hh => KT (Decidable.byContradiction fun q => by rw [(feq q).1] at hh; cases hh)) (fun hh => KF (fun q => by rw [(teq q).1] at hh; cases hh))
theorem W.icmpNe (X : Stand p l e R s m args below meth c T locs cells slots) (hx : p.tables.exec = Jvm.exec) {o : Int} {x y : Int32} (pcT pcF : Nat) (hd : decode c.code pc = .ok (.if_icmp .ne o, 3)) (ho : 0 ≤ (pc : Int) + o) (hp : ((pc : Int) + o).toNat = pcT) (hq : pc + 3 = pcF) (KT : ¬ x = y → Wp p e s below Q kc ks (T.setTop (mkF m pcT Ls st))) (KF : x = y → Wp p e s below Q kc ks (T.setTop (mkF m pcF Ls st))) : Wp p e s below Q kc ks (T.setTop (mkF m pc Ls (.int y :: .int x :: st))) :=
  W.icmp X hx pcT pcF hd ho hp hq (fun hh => KT (fun q => by rw [(teq q).2] at hh; cases hh)) (fun hh => KF (Decidable.byContradiction fun q => by rw [(feq q).2] at hh; cases hh))
theorem W.ifNe (X : Stand p l e R s m args below meth c T locs cells slots) (hx : p.tables.exec = Jvm.exec) {o : Int} {x : Int32} (pcT pcF : Nat) (hd : decode c.code pc = .ok (.ifCond .ne o, 3)) (ho : 0 ≤ (pc : Int) + o) (hp : ((pc : Int) + o).toNat = pcT) (hq : pc + 3 = pcF) (KT : ¬ x = 0 → Wp p e s below Q kc ks (T.setTop (mkF m pcT Ls st))) (KF : x = 0 → Wp p e s below Q kc ks (T.setTop (mkF m pcF Ls st))) : Wp p e s below Q kc ks (T.setTop (mkF m pc Ls (.int x :: st))) :=
  W.ifc X hx pcT pcF hd ho hp hq (fun hh => KT (fun q => by rw [(teq q).2] at hh; cases hh)) (fun hh => KF (Decidable.byContradiction fun q => by rw [(feq q).2] at hh; cases hh))
theorem W.icmpLt (X : Stand p l e R s m args below meth c T locs cells slots) (hx : p.tables.exec = Jvm.exec) {o : Int} {x y : Int32} (pcT pcF : Nat) (hd : decode c.code pc = .ok (.if_icmp .lt o, 3)) (ho : 0 ≤ (pc : Int) + o) (hp : ((pc : Int) + o).toNat = pcT) (hq : pc + 3 = pcF) (KT : x < y → Wp p e s below Q kc ks (T.setTop (mkF m pcT Ls st))) (KF : ¬ x < y → Wp p e s below Q kc ks (T.setTop (mkF m pcF Ls st))) : Wp p e s below Q kc ks (T.setTop (mkF m pc Ls (.int y :: .int x :: st))) :=
  W.icmp X hx pcT pcF hd ho hp hq (fun hh => KT (Decidable.byContradiction fun q => by rw [(flt q).1] at hh; cases hh)) (fun hh => KF (fun q => by rw [(tlt q).1] at hh; cases hh))
theorem W.ifLt (X : Stand p l e R s m args below meth c T locs cells slots) (hx : p.tables.exec = Jvm.exec) {o : Int} {x : Int32} (pcT pcF : Nat) (hd : decode c.code pc = .ok (.ifCond .lt o, 3)) (ho : 0 ≤ (pc : Int) + o) (hp : ((pc : Int) + o).toNat = pcT) (hq : pc + 3 = pcF) (KT : x < 0 → Wp p e s below Q kc ks (T.setTop (mkF m pcT Ls st))) (KF : ¬ x < 0 → Wp p e s below Q kc ks (T.setTop (mkF m pcF Ls st))) : Wp p e s below Q kc ks (T.setTop (mkF m pc Ls (.int x :: st))) :=
  W.ifc X hx pcT pcF hd ho hp hq (fun hh => KT (Decidable.byContradiction fun q => by rw [(flt q).1] at hh; cases hh)) (fun hh => KF (fun q => by rw [(tlt q).1] at hh; cases hh))
theorem W.icmpGe (X : Stand p l e R s m args below meth c T locs cells slots) (hx : p.tables.exec = Jvm.exec) {o : Int} {x y : Int32} (pcT pcF : Nat) (hd : decode c.code pc = .ok (.if_icmp .ge o, 3)) (ho : 0 ≤ (pc : Int) + o) (hp : ((pc : Int) + o).toNat = pcT) (hq : pc + 3 = pcF) (KT : ¬ x < y → Wp p e s below Q kc ks (T.setTop (mkF m pcT Ls st))) (KF : x < y → Wp p e s below Q kc ks (T.setTop (mkF m pcF Ls st))) : Wp p e s below Q kc ks (T.setTop (mkF m pc Ls (.int y :: .int x :: st))) :=
  W.icmp X hx pcT pcF hd ho hp hq (fun hh => KT (fun q => by rw [(tlt q).2.1] at hh; cases hh)) (fun hh => KF (Decidable.byContradiction fun q => by rw [(flt q).2.1] at hh; cases hh))
theorem W.ifGe (X : Stand p l e R s m args below meth c T locs cells slots) (hx : p.tables.exec = Jvm.exec) {o : Int} {x : Int32} (pcT pcF : Nat) (hd : decode c.code pc = .ok (.ifCond .ge o, 3)) (ho : 0 ≤ (pc : Int) + o) (hp : ((pc : Int) + o).toNat = pcT) (hq : pc + 3 = pcF) (KT : ¬ x < 0 → Wp p e s below Q kc ks (T.setTop (mkF m pcT Ls st))) (KF : x < 0 → Wp p e s below Q kc ks (T.setTop (mkF m pcF Ls st))) : Wp p e s below Q kc ks (T.setTop (mkF m pc Ls (.int x :: st))) :=
  W.ifc X hx pcT pcF hd ho hp hq (fun hh => KT (fun q => by rw [(tlt q).2.1] at hh; cases hh)) (fun hh => KF (Decidable.byContradiction fun q => by rw [(flt q).2.1] at hh; cases hh))
theorem W.icmpGt (X : Stand p l e R s m args below meth c T locs cells slots) (hx : p.tables.exec = Jvm.exec) {o : Int} {x y : Int32} (pcT pcF : Nat) (hd : decode c.code pc = .ok (.if_icmp .gt o, 3)) (ho : 0 ≤ (pc : Int) + o) (hp : ((pc : Int) + o).toNat = pcT) (hq : pc + 3 = pcF) (KT : y < x → Wp p e s below Q kc ks (T.setTop (mkF m pcT Ls st))) (KF : ¬ y < x → Wp p e s below Q kc ks (T.setTop (mkF m pcF Ls st))) : Wp p e s below Q kc ks (T.setTop (mkF m pc Ls (.int y :: .int x :: st))) :=
  W.icmp X hx pcT pcF hd ho hp hq (fun hh => KT (Decidable.byContradiction fun q => by rw [(flt q).2.2.1] at hh; cases hh)) (fun hh => KF (fun q => by rw [(tlt q).2.2.1] at hh; cases hh))
theorem W.ifGt (X : Stand p l e R s m args below meth c T locs cells slots) (hx : p.tables.exec = Jvm.exec) {o : Int} {x : Int32} (pcT pcF : Nat) (hd : decode c.code pc = .ok (.ifCond .gt o, 3)) (ho : 0 ≤ (pc : Int) + o) (hp : ((pc : Int) + o).toNat = pcT) (hq : pc + 3 = pcF) (KT : 0 < x → Wp p e s below Q kc ks (T.setTop (mkF m pcT Ls st))) (KF : ¬ 0 < x → Wp p e s below Q kc ks (T.setTop (mkF m pcF Ls st))) : Wp p e s below Q kc ks (T.setTop (mkF m pc Ls (.int x :: st))) :=
  W.ifc X hx pcT pcF hd ho hp hq (fun hh => KT (Decidable.byContradiction fun q => by rw [(flt q).2.2.1] at hh; cases hh)) (fun hh => KF (fun q => by rw [(tlt q).2.2.1] at hh; cases hh))
theorem W.icmpLe (X : Stand p l e R s m args below meth c T locs cells slots) (hx : p.tables.exec = Jvm.exec) {o : Int} {x y : Int32} (pcT pcF : Nat) (hd : decode c.code pc = .ok (.if_icmp .le o, 3)) (ho : 0 ≤ (pc : Int) + o) (hp : ((pc : Int) + o).toNat = pcT) (hq : pc + 3 = pcF) (KT : ¬ y < x → Wp p e s below Q kc ks (T.setTop (mkF m pcT Ls st))) (KF : y < x → Wp p e s below Q kc ks (T.setTop (mkF m pcF Ls st))) : Wp p e s below Q kc ks (T.setTop (mkF m pc Ls (.int y :: .int x :: st))) :=
  W.icmp X hx pcT pcF hd ho hp hq (fun hh => KT (fun q => by rw [(tlt q).2.2.2] at hh; cases hh)) (fun hh => KF (Decidable.byContradiction fun q => by rw [(flt q).2.2.2] at hh; cases hh))
theorem W.ifLe (X : Stand p l e R s m args below meth c T locs cells slots) (hx : p.tables.exec = Jvm.exec) {o : Int} {x : Int32} (pcT pcF : Nat) (hd : decode c.code pc = .ok (.ifCond .le o, 3)) (ho : 0 ≤ (pc : Int) + o) (hp : ((pc : Int) + o).toNat = pcT) (hq : pc + 3 = pcF) (KT : ¬ 0 < x → Wp p e s below Q kc ks (T.setTop (mkF m pcT Ls st))) (KF : 0 < x → Wp p e s below Q kc ks (T.setTop (mkF m pcF Ls st))) : Wp p e s below Q kc ks (T.setTop (mkF m pc Ls (.int x :: st))) :=
  W.ifc X hx pcT pcF hd ho hp hq (fun hh => KT (fun q => by rw [(tlt q).2.2.2] at hh; cases hh)) (fun hh => KF (Decidable.byContradiction fun q => by rw [(flt q).2.2.2] at hh; cases hh))
theorem W.lifEq (X : Stand p l e R s m args below meth c T locs cells slots) (hx : p.tables.exec = Jvm.exec) {o : Int} {x y : Int64} (pcT pcF : Nat) (hd : decode c.code pc = .ok (.ifCond .eq o, 3)) (ho : 0 ≤ (pc : Int) + o) (hp : ((pc : Int) + o).toNat = pcT) (hq : pc + 3 = pcF) (KT : x = y → Wp p e s below Q kc ks (T.setTop (mkF m pcT Ls st))) (KF : ¬ x = y → Wp p e s below Q kc ks (T.setTop (mkF m pcF Ls st))) : Wp p e s below Q kc ks (T.setTop (mkF m pc Ls (.int (lcmpW x y) :: st))) :=
  W.ifEq X hx pcT pcF hd ho hp hq (fun q => KT ((lw_eq x y).mp q)) (fun q => KF (fun r => q ((lw_eq x y).mpr r)))
theorem W.lifNe (X : Stand p l e R s m args below meth c T locs cells slots) (hx : p.tables.exec = Jvm.exec) {o : Int} {x y : Int64} (pcT pcF : Nat) (hd : decode c.code pc = .ok (.ifCond .ne o, 3)) (ho : 0 ≤ (pc : Int) + o) (hp : ((pc : Int) + o).toNat = pcT) (hq : pc + 3 = pcF) (KT : ¬ x = y → Wp p e s below Q kc ks (T.setTop (mkF m pcT Ls st))) (KF : x = y → Wp p e s below Q kc ks (T.setTop (mkF m pcF Ls st))) : Wp p e s below Q kc ks (T.setTop (mkF m pc Ls (.int (lcmpW x y) :: st))) :=
  W.ifNe X hx pcT pcF hd ho hp hq (fun q => KT (fun r => q ((lw_eq x y).mpr r))) (fun q => KF ((lw_eq x y).mp q))
theorem W.lifLt (X : Stand p l e R s m args below meth c T locs cells slots) (hx : p.tables.exec = Jvm.exec) {o : Int} {x y : Int64} (pcT pcF : Nat) (hd : decode c.code pc = .ok (.ifCond .lt o, 3)) (ho : 0 ≤ (pc : Int) + o) (hp : ((pc : Int) + o).toNat = pcT) (hq : pc + 3 = pcF) (KT : x < y → Wp p e s below Q kc ks (T.setTop (mkF m pcT Ls st))) (KF : ¬ x < y → Wp p e s below Q kc ks (T.setTop (mkF m pcF Ls st))) : Wp p e s below Q kc ks (T.setTop (mkF m pc Ls (.int (lcmpW x y) :: st))) :=
  W.ifLt X hx pcT pcF hd ho hp hq (fun q => KT ((lw_lt x y).mp q)) (fun q => KF (fun r => q ((lw_lt x y).mpr r)))
theorem W.lifGe (X : Stand p l e R s m args below meth c T locs cells slots) (hx : p.tables.exec = Jvm.exec) {o : Int} {x y : Int64} (pcT pcF : Nat) (hd : decode c.code pc = .ok (.ifCond .ge o, 3)) (ho : 0 ≤ (pc : Int) + o) (hp : ((pc : Int) + o).toNat = pcT) (hq : pc + 3 = pcF) (KT : ¬ x < y → Wp p e s below Q kc ks (T.setTop (mkF m pcT Ls st))) (KF : x < y → Wp p e s below Q kc ks (T.setTop (mkF m pcF Ls st))) : Wp p e s below Q kc ks (T.setTop (mkF m pc Ls (.int (lcmpW x y) :: st))) :=
  W.ifGe X hx pcT pcF hd ho hp hq (fun q => KT (fun r => q ((lw_lt x y).mpr r))) (fun q => KF ((lw_lt x y).mp q))
theorem W.lifGt (X : Stand p l e R s m args below meth c T locs cells slots) (hx : p.tables.exec = Jvm.exec) {o : Int} {x y : Int64} (pcT pcF : Nat) (hd : decode c.code pc = .ok (.ifCond .gt o, 3)) (ho : 0 ≤ (pc : Int) + o) (hp : ((pc : Int) + o).toNat = pcT) (hq : pc + 3 = pcF) (KT : y < x → Wp p e s below Q kc ks (T.setTop (mkF m pcT Ls st))) (KF : ¬ y < x → Wp p e s below Q kc ks (T.setTop (mkF m pcF Ls st))) : Wp p e s below Q kc ks (T.setTop (mkF m pc Ls (.int (lcmpW x y) :: st))) :=
  W.ifGt X hx pcT pcF hd ho hp hq (fun q => KT ((lw_gt x y).mp q)) (fun q => KF (fun r => q ((lw_gt x y).mpr r)))
theorem W.lifLe (X : Stand p l e R s m args below meth c T locs cells slots) (hx : p.tables.exec = Jvm.exec) {o : Int} {x y : Int64} (pcT pcF : Nat) (hd : decode c.code pc = .ok (.ifCond .le o, 3)) (ho : 0 ≤ (pc : Int) + o) (hp : ((pc : Int) + o).toNat = pcT) (hq : pc + 3 = pcF) (KT : ¬ y < x → Wp p e s below Q kc ks (T.setTop (mkF m pcT Ls st))) (KF : y < x → Wp p e s below Q kc ks (T.setTop (mkF m pcF Ls st))) : Wp p e s below Q kc ks (T.setTop (mkF m pc Ls (.int (lcmpW x y) :: st))) :=
  W.ifLe X hx pcT pcF hd ho hp hq (fun q => KT (fun r => q ((lw_gt x y).mpr r))) (fun q => KF ((lw_gt x y).mp q))
theorem W.nonnullR (X : Stand p l e R s m args below meth c T locs cells slots) (hx : p.tables.exec = Jvm.exec) {o : Int} {b : Addr} (pcT : Nat) (hd : decode c.code pc = .ok (.ifnonnull o, 3)) (ho : 0 ≤ (pc : Int) + o) (hp : ((pc : Int) + o).toNat = pcT) (K : Wp p e s below Q kc ks (T.setTop (mkF m pcT Ls st))) : Wp p e s below Q kc ks (T.setTop (mkF m pc Ls (.ref b :: st))) :=
  Wp.step (fun _ k => XS.ifnonnullYes X.here hx rfl rfl hd rfl ho hp k) K
theorem W.nonnullN (X : Stand p l e R s m args below meth c T locs cells slots) (hx : p.tables.exec = Jvm.exec) {o : Int} (pc' : Nat) (hd : decode c.code pc = .ok (.ifnonnull o, 3)) (hp : pc + 3 = pc') (K : Wp p e s below Q kc ks (T.setTop (mkF m pc' Ls st))) : Wp p e s below Q kc ks (T.setTop (mkF m pc Ls (.null :: st))) := by
  subst hp; exact Wp.step (fun _ k => XS.ifnonnullNo X.here hx rfl hd rfl k) K
theorem W.nullN (X : Stand p l e R s m args below meth c T locs cells slots) (hx : p.tables.exec = Jvm.exec) {o : Int} (pcT : Nat) (hd : decode c.code pc = .ok (.ifnull o, 3)) (ho : 0 ≤ (pc : Int) + o) (hp : ((pc : Int) + o).toNat = pcT) (K : Wp p e s below Q kc ks (T.setTop (mkF m pcT Ls st))) : Wp p e s below Q kc ks (T.setTop (mkF m pc Ls (.null :: st))) :=
  Wp.step (fun _ k => XS.ifnullYes X.here hx rfl rfl hd rfl ho hp k) K
theorem W.nullR (X : Stand p l e R s m args below meth c T locs cells slots) (hx : p.tables.exec = Jvm.exec) {o : Int} {b : Addr} (pc' : Nat) (hd : decode c.code pc = .ok (.ifnull o, 3)) (hp : pc + 3 = pc') (K : Wp p e s below Q kc ks (T.setTop (mkF m pc' Ls st))) : Wp p e s below Q kc ks (T.setTop (mkF m pc Ls (.ref b :: st))) := by
  subst hp; exact Wp.step (fun _ k => XS.ifnullNo X.here hx rfl hd rfl k) K
theorem W.acmpE (X : Stand p l e R s m args below meth c T locs cells slots) (hx : p.tables.exec = Jvm.exec) {o : Int} {x y : Value} (pcT pcF : Nat) (h1 : x.isRef = true) (h2 : y.isRef = true) (hd : decode c.code pc = .ok (.if_acmp .eq o, 3)) (ho : 0 ≤ (pc : Int) + o) (hp : ((pc : Int) + o).toNat = pcT) (hq : pc + 3 = pcF) (KT : x = y → Wp p e s below Q kc ks (T.setTop (mkF m pcT Ls st))) (KF : ¬ x = y → Wp p e s below Q kc ks (T.setTop (mkF m pcF Ls st))) : Wp p e s below Q kc ks (T.setTop (mkF m pc Ls (y :: x :: st))) := by
  by_cases q : x = y
  · exact Wp.step (fun _ k => acmp X hx (g := mkF m pc Ls (y :: x :: st)) rfl h1 h2 rfl hd rfl (same := true) (by simp [q]) ho (pc' := pcT) (by simp [acV, hp]) k) (KT q)
  · exact Wp.step (fun _ k => acmp X hx (g := mkF m pc Ls (y :: x :: st)) rfl h1 h2 rfl hd rfl (same := false) (by simp [q]) ho (pc' := pcF) (by simp [acV, hq]) k) (KF q)
theorem W.acmpN (X : Stand p l e R s m args below meth c T locs cells slots) (hx : p.tables.exec = Jvm.exec) {o : Int} {x y : Value} (pcT pcF : Nat) (h1 : x.isRef = true) (h2 : y.isRef = true) (hd : decode c.code pc = .ok (.if_acmp .ne o, 3)) (ho : 0 ≤ (pc : Int) + o) (hp : ((pc : Int) + o).toNat = pcT) (hq : pc + 3 = pcF) (KT : ¬ x = y → Wp p e s below Q kc ks (T.setTop (mkF m pcT Ls st))) (KF : x = y → Wp p e s below Q kc ks (T.setTop (mkF m pcF Ls st))) : Wp p e s below Q kc ks (T.setTop (mkF m pc Ls (y :: x :: st))) := by
  by_cases q : x = y
  · exact Wp.step (fun _ k => acmp X hx (g := mkF m pc Ls (y :: x :: st)) rfl h1 h2 rfl hd rfl (same := true) (by simp [q]) ho (pc' := pcF) (by simp [acV, hq]) k) (KF q)
  · exact Wp.step (fun _ k => acmp X hx (g := mkF m pc Ls (y :: x :: st)) rfl h1 h2 rfl hd rfl (same := false) (by simp [q]) ho (pc' := pcT) (by simp [acV, hp]) k) (KT q)
theorem W.newarr (X : Stand p l e R s m args below meth c T locs cells slots) (hx : p.tables.exec = Jvm.exec) (hZ : Z.Warmed39 s.vm) {aty : ArrayType} {z : Int32} (pc' : Nat) (k cap : Nat) (w : (Jvm.Cond.arrayClass (newarray.typeOf aty)).before a0 Z = true) (eT : T.heap = h) (hd : decode c.code pc = .ok (.newarray aty, 2)) (hz : z.toInt = (k : Int)) (hcap : k ≤ cap) (hb : cap * 8 ≤ 536870912) (hc : cells + 1 ≤ R.cells) (hl : slots + cap ≤ R.slots) (hp : pc + 2 = pc')
    (K : ∀ T' h' a, a = h.size → Stand p l e R s m args below meth c T' locs (cells + 1) (slots + cap) → T'.heap = h' → Ext h h' → IArr Z h' a (newarray.typeOf aty) k (fun _ => defaultValue (newarray.typeOf aty)) → Wp p e s below Q kc ks (T'.setTop (mkF m pc' Ls (.ref a :: st)))) : Wp p e s below Q kc ks (T.setTop (mkF m pc Ls (.int z :: st))) := by
  subst hp
  obtain ⟨q1, q2⟩ := nat_of hz
  obtain ⟨T', h', cA, X', e', E, A, stp⟩ := newP X hx hZ w eT (g := mkF m pc Ls (.int z :: st)) rfl hd rfl q1 (cap := cap) (by omega) hb hc hl
  exact Wp.step stp (K T' h' _ rfl X' e' E (IArr.fresh A q2))
theorem IArr.inb {j : Int32} {i : Nat} {cl : Cell} (S : cl.slots.size = n) (hj : j.toInt = (i : Int)) (hi : i < n) : ¬ (j < 0 ∨ cl.slots.size ≤ j.toNatClampNeg) := by
  obtain ⟨q1, q2⟩ := nat_of hj
  rw [S, q2]; intro q; rcases q with q | q
  · exact q1 q
  · omega
theorem W.arrlen (X : Stand p l e R s m args below meth c T locs cells slots) (hx : p.tables.exec = Jvm.exec) (hZ : Z.Warmed39 s.vm) (pc' : Nat) (eT : T.heap = h) (A : IArr Z h a ty n f) (v : Int32) (hv : n.toInt32 = v) (hd : decode c.code pc = .ok (.arraylength, 1)) (hp : pc + 1 = pc') (K : Wp p e s below Q kc ks (T.setTop (mkF m pc' Ls (.int v :: st)))) : Wp p e s below Q kc ks (T.setTop (mkF m pc Ls (.ref a :: st))) := by
  subst hp hv
  obtain ⟨cl, A, S, H⟩ := A
  subst S
  exact Wp.step (fun t k => X.arraylength hx (by rw [eT]; exact A.1) (State.isArrayOf_alike hZ.alike A.2.1) (g := mkF m pc Ls (.ref a :: st)) rfl rfl hd t k) K
theorem W.iaload (X : Stand p l e R s m args below meth c T locs cells slots) (hx : p.tables.exec = Jvm.exec) (hZ : Z.Warmed39 s.vm) {j : Int32} (pc' : Nat) (i : Nat) (v : Value) (eT : T.heap = h) (A : IArr Z h a .int n f) (hj : j.toInt = (i : Int)) (hi : i < n) (hv : f i = v) (hd : decode c.code pc = .ok (.iaload, 1)) (hp : pc + 1 = pc') (K : Wp p e s below Q kc ks (T.setTop (mkF m pc' Ls (v :: st)))) : Wp p e s below Q kc ks (T.setTop (mkF m pc Ls (.int j :: .ref a :: st))) := by
  subst hp hv
  obtain ⟨cl, A, S, H⟩ := A
  exact Wp.step (fun t k => X.iaload hx (by rw [eT]; exact A.1) (State.isArrayOf_alike hZ.alike A.2.1) A.2.2 (IArr.inb S hj hi) (by rw [(nat_of hj).2]; exact H i hi) (g := mkF m pc Ls (.int j :: .ref a :: st)) rfl rfl hd t k) K
theorem W.laload (X : Stand p l e R s m args below meth c T locs cells slots) (hx : p.tables.exec = Jvm.exec) (hZ : Z.Warmed39 s.vm) {j : Int32} (pc' : Nat) (i : Nat) (v : Value) (eT : T.heap = h) (A : IArr Z h a .long n f) (hj : j.toInt = (i : Int)) (hi : i < n) (hv : f i = v) (hd : decode c.code pc = .ok (.laload, 1)) (hp : pc + 1 = pc') (K : Wp p e s below Q kc ks (T.setTop (mkF m pc' Ls (v :: st)))) : Wp p e s below Q kc ks (T.setTop (mkF m pc Ls (.int j :: .ref a :: st))) := by
  subst hp hv
  obtain ⟨cl, A, S, H⟩ := A
  exact Wp.step (fun t k => X.laload hx (by rw [eT]; exact A.1) (State.isArrayOf_alike hZ.alike A.2.1) A.2.2 (IArr.inb S hj hi) (by rw [(nat_of hj).2]; exact H i hi) (g := mkF m pc Ls (.int j :: .ref a :: st)) rfl rfl hd t k) K
theorem W.caload (X : Stand p l e R s m args below meth c T locs cells slots) (hx : p.tables.exec = Jvm.exec) (hZ : Z.Warmed39 s.vm) {j : Int32} (pc' : Nat) (i : Nat) (v : Value) (eT : T.heap = h) (A : IArr Z h a .char n f) (hj : j.toInt = (i : Int)) (hi : i < n) (hv : f i = v) (hd : decode c.code pc = .ok (.caload, 1)) (hp : pc + 1 = pc') (K : Wp p e s below Q kc ks (T.setTop (mkF m pc' Ls (v :: st)))) : Wp p e s below Q kc ks (T.setTop (mkF m pc Ls (.int j :: .ref a :: st))) := by
  subst hp hv
  obtain ⟨cl, A, S, H⟩ := A
  exact Wp.step (fun t k => X.caload hx (by rw [eT]; exact A.1) (State.isArrayOf_alike hZ.alike A.2.1) A.2.2 (IArr.inb S hj hi) (by rw [(nat_of hj).2]; exact H i hi) (g := mkF m pc Ls (.int j :: .ref a :: st)) rfl rfl hd t k) K
theorem W.baload (X : Stand p l e R s m args below meth c T locs cells slots) (hx : p.tables.exec = Jvm.exec) (hZ : Z.Warmed39 s.vm) {j : Int32} (pc' : Nat) (i : Nat) (v : Value) (eT : T.heap = h) (A : IArr Z h a .byte n f) (hj : j.toInt = (i : Int)) (hi : i < n) (hv : f i = v) (hd : decode c.code pc = .ok (.baload, 1)) (hp : pc + 1 = pc') (K : Wp p e s below Q kc ks (T.setTop (mkF m pc' Ls (v :: st)))) : Wp p e s below Q kc ks (T.setTop (mkF m pc Ls (.int j :: .ref a :: st))) := by
  subst hp hv
  obtain ⟨cl, A, S, H⟩ := A
  exact Wp.step (fun t k => X.baloadBytes hx (by rw [eT]; exact A.1) (State.isArrayOf_alike hZ.alike A.2.1) A.2.2 (IArr.inb S hj hi) (by rw [(nat_of hj).2]; exact H i hi) (g := mkF m pc Ls (.int j :: .ref a :: st)) rfl rfl hd t k) K
theorem W.zaload (X : Stand p l e R s m args below meth c T locs cells slots) (hx : p.tables.exec = Jvm.exec) (hZ : Z.Warmed39 s.vm) {j : Int32} (pc' : Nat) (i : Nat) (v : Value) (eT : T.heap = h) (A : IArr Z h a .boolean n f) (hj : j.toInt = (i : Int)) (hi : i < n) (hv : f i = v) (hd : decode c.code pc = .ok (.baload, 1)) (hp : pc + 1 = pc') (K : Wp p e s below Q kc ks (T.setTop (mkF m pc' Ls (v :: st)))) : Wp p e s below Q kc ks (T.setTop (mkF m pc Ls (.int j :: .ref a :: st))) := by
  subst hp hv
  obtain ⟨cl, A, S, H⟩ := A
  exact Wp.step (fun t k => X.baloadBooleans hx (by rw [eT]; exact A.1) (State.isArrayOf_alike hZ.alike A.2.1) A.2.2 (IArr.inb S hj hi) (by rw [(nat_of hj).2]; exact H i hi) (g := mkF m pc Ls (.int j :: .ref a :: st)) rfl rfl hd t k) K
theorem W.aaload (X : Stand p l e R s m args below meth c T locs cells slots) (hx : p.tables.exec = Jvm.exec) (hZ : Z.Warmed39 s.vm) {j : Int32} (pc' : Nat) (i : Nat) (v : Value) (eT : T.heap = h) (A : IArr Z h a ty n f) (hty : ty.isReference = true) (hj : j.toInt = (i : Int)) (hi : i < n) (hv : f i = v) (hd : decode c.code pc = .ok (.aaload, 1)) (hp : pc + 1 = pc') (K : Wp p e s below Q kc ks (T.setTop (mkF m pc' Ls (v :: st)))) : Wp p e s below Q kc ks (T.setTop (mkF m pc Ls (.int j :: .ref a :: st))) := by
  subst hp hv
  obtain ⟨cl, A, S, H⟩ := A
  exact Wp.step (fun t k => X.aaload hx (by rw [eT]; exact A.1) (State.isArrayOf_alike hZ.alike A.2.1) hty A.2.2 (IArr.inb S hj hi) (by rw [(nat_of hj).2]; exact H i hi) (g := mkF m pc Ls (.int j :: .ref a :: st)) rfl rfl hd t k) K
theorem W.iastore (X : Stand p l e R s m args below meth c T locs cells slots) (hx : p.tables.exec = Jvm.exec) (hZ : Z.Warmed39 s.vm) {j : Int32} {x : Int32} (pc' : Nat) (i : Nat) (eT : T.heap = h) (A : IArr Z h a .int n f) (hj : j.toInt = (i : Int)) (hi : i < n) (hd : decode c.code pc = .ok (.iastore, 1)) (hp : pc + 1 = pc')
    (K : ∀ T' h', Stand p l e R s m args below meth c T' (locs ++ [⟨a, i⟩]) cells slots → T'.heap = h' → Wr h h' a i (.int x) → IArr Z h' a .int n (upd f i (.int x)) → Wp p e s below Q kc ks (T'.setTop (mkF m pc' Ls st))) : Wp p e s below Q kc ks (T.setTop (mkF m pc Ls (.int x :: .int j :: .ref a :: st))) := by
  subst hp
  obtain ⟨cl, A0, S, H⟩ := A
  obtain ⟨T', h', X', e', W, stp⟩ := stI X hx hZ eT A0 (IArr.inb S hj hi) (g := mkF m pc Ls (.int x :: .int j :: .ref a :: st)) rfl rfl hd
  rw [(nat_of hj).2] at X' W
  exact Wp.step stp (K T' h' X' e' W (IArr.same ⟨cl, A0, S, H⟩ W))
theorem W.lastore (X : Stand p l e R s m args below meth c T locs cells slots) (hx : p.tables.exec = Jvm.exec) (hZ : Z.Warmed39 s.vm) {j : Int32} {x : Int64} (pc' : Nat) (i : Nat) (eT : T.heap = h) (A : IArr Z h a .long n f) (hj : j.toInt = (i : Int)) (hi : i < n) (hd : decode c.code pc = .ok (.lastore, 1)) (hp : pc + 1 = pc')
    (K : ∀ T' h', Stand p l e R s m args below meth c T' (locs ++ [⟨a, i⟩]) cells slots → T'.heap = h' → Wr h h' a i (.long x) → IArr Z h' a .long n (upd f i (.long x)) → Wp p e s below Q kc ks (T'.setTop (mkF m pc' Ls st))) : Wp p e s below Q kc ks (T.setTop (mkF m pc Ls (.long x :: .int j :: .ref a :: st))) := by
  subst hp
  obtain ⟨cl, A0, S, H⟩ := A
  obtain ⟨T', h', X', e', W, stp⟩ := stJ X hx hZ eT A0 (IArr.inb S hj hi) (g := mkF m pc Ls (.long x :: .int j :: .ref a :: st)) rfl rfl hd
  rw [(nat_of hj).2] at X' W
  exact Wp.step stp (K T' h' X' e' W (IArr.same ⟨cl, A0, S, H⟩ W))
theorem W.castore (X : Stand p l e R s m args below meth c T locs cells slots) (hx : p.tables.exec = Jvm.exec) (hZ : Z.Warmed39 s.vm) {j : Int32} {x : Int32} (pc' : Nat) (i : Nat) (eT : T.heap = h) (A : IArr Z h a .char n f) (hj : j.toInt = (i : Int)) (hi : i < n) (hd : decode c.code pc = .ok (.castore, 1)) (hp : pc + 1 = pc')
    (K : ∀ T' h', Stand p l e R s m args below meth c T' (locs ++ [⟨a, i⟩]) cells slots → T'.heap = h' → Wr h h' a i (.int (nar .char x)) → IArr Z h' a .char n (upd f i (.int (nar .char x))) → Wp p e s below Q kc ks (T'.setTop (mkF m pc' Ls st))) : Wp p e s below Q kc ks (T.setTop (mkF m pc Ls (.int x :: .int j :: .ref a :: st))) := by
  subst hp
  obtain ⟨cl, A0, S, H⟩ := A
  obtain ⟨T', h', X', e', W, stp⟩ := stC X hx hZ eT A0 (IArr.inb S hj hi) (g := mkF m pc Ls (.int x :: .int j :: .ref a :: st)) rfl rfl hd
  rw [(nat_of hj).2] at X' W
  exact Wp.step stp (K T' h' X' e' W (IArr.same ⟨cl, A0, S, H⟩ W))
theorem W.bastore (X : Stand p l e R s m args below meth c T locs cells slots) (hx : p.tables.exec = Jvm.exec) (hZ : Z.Warmed39 s.vm) {j : Int32} {x : Int32} (pc' : Nat) (i : Nat) (eT : T.heap = h) (A : IArr Z h a .byte n f) (hj : j.toInt = (i : Int)) (hi : i < n) (hd : decode c.code pc = .ok (.bastore, 1)) (hp : pc + 1 = pc')
    (K : ∀ T' h', Stand p l e R s m args below meth c T' (locs ++ [⟨a, i⟩]) cells slots → T'.heap = h' → Wr h h' a i (.int (nar .byte x)) → IArr Z h' a .byte n (upd f i (.int (nar .byte x))) → Wp p e s below Q kc ks (T'.setTop (mkF m pc' Ls st))) : Wp p e s below Q kc ks (T.setTop (mkF m pc Ls (.int x :: .int j :: .ref a :: st))) := by
  subst hp
  obtain ⟨cl, A0, S, H⟩ := A
  obtain ⟨T', h', X', e', W, stp⟩ := stB X hx hZ eT A0 (IArr.inb S hj hi) (g := mkF m pc Ls (.int x :: .int j :: .ref a :: st)) rfl rfl hd
  rw [(nat_of hj).2] at X' W
  exact Wp.step stp (K T' h' X' e' W (IArr.same ⟨cl, A0, S, H⟩ W))
theorem W.zastore (X : Stand p l e R s m args below meth c T locs cells slots) (hx : p.tables.exec = Jvm.exec) (hZ : Z.Warmed39 s.vm) {j : Int32} {x : Int32} (pc' : Nat) (i : Nat) (eT : T.heap = h) (A : IArr Z h a .boolean n f) (hj : j.toInt = (i : Int)) (hi : i < n) (hd : decode c.code pc = .ok (.bastore, 1)) (hp : pc + 1 = pc')
    (K : ∀ T' h', Stand p l e R s m args below meth c T' (locs ++ [⟨a, i⟩]) cells slots → T'.heap = h' → Wr h h' a i (.int (nar .boolean x)) → IArr Z h' a .boolean n (upd f i (.int (nar .boolean x))) → Wp p e s below Q kc ks (T'.setTop (mkF m pc' Ls st))) : Wp p e s below Q kc ks (T.setTop (mkF m pc Ls (.int x :: .int j :: .ref a :: st))) := by
  subst hp
  obtain ⟨cl, A0, S, H⟩ := A
  obtain ⟨T', h', X', e', W, stp⟩ := stZ X hx hZ eT A0 (IArr.inb S hj hi) (g := mkF m pc Ls (.int x :: .int j :: .ref a :: st)) rfl rfl hd
  rw [(nat_of hj).2] at X' W
  exact Wp.step stp (K T' h' X' e' W (IArr.same ⟨cl, A0, S, H⟩ W))
theorem W.getS (X : Stand p l e R s m args below meth c T locs cells slots) (hx : p.tables.exec = Jvm.exec) (hZ : Z.Warmed39 s.vm) {own R0 O nm d : String} {index : Nat} {v : Value} (pc' : Nat) (hown : s.vm.findClass own = some m.cls) (w : (Jvm.Cond.fieldLink own index R0 nm d).before a0 Z = true) (via : Via Z R0 O nm d) (eT : T.heap = h) (F : Sta Z h O nm d v) (hd : decode c.code pc = .ok (.getstatic index, 3)) (hp : pc + 3 = pc')
    (K : ∀ T', Stand p l e R s m args below meth c T' locs cells slots → T'.heap = h → Wp p e s below Q kc ks (T'.setTop (mkF m pc' Ls (v :: st)))) : Wp p e s below Q kc ks (T.setTop (mkF m pc Ls st)) := by
  subst hp
  obtain ⟨T', X', e', stp⟩ := Jvm.RoadKit.getS X hx hZ (host := "") hown w via eT F (g := mkF m pc Ls st) rfl hd
  exact Wp.step stp (K T' X' e')
theorem W.getF (X : Stand p l e R s m args below meth c T locs cells slots) (hx : p.tables.exec = Jvm.exec) (hZ : Z.Warmed39 s.vm) {own R0 O nm d : String} {index : Nat} {v : Value} (pc' : Nat) (hown : s.vm.findClass own = some m.cls) (w : (Jvm.Cond.fieldLink own index R0 nm d).before a0 Z = true) (via : Via Z R0 O nm d) (eT : T.heap = h) (F : Fld Z h a O nm d v) (hd : decode c.code pc = .ok (.getfield index, 3)) (hp : pc + 3 = pc')
    (K : ∀ T', Stand p l e R s m args below meth c T' locs cells slots → T'.heap = h → Wp p e s below Q kc ks (T'.setTop (mkF m pc' Ls (v :: st)))) : Wp p e s below Q kc ks (T.setTop (mkF m pc Ls (.ref a :: st))) := by
  subst hp
  obtain ⟨T', X', e', stp⟩ := Jvm.RoadKit.getF X hx hZ (host := "") hown (Or.inl w) via eT F (g := mkF m pc Ls (.ref a :: st)) rfl rfl hd
  exact Wp.step stp (K T' X' e')
theorem W.putF (X : Stand p l e R s m args below meth c T locs cells slots) (hx : p.tables.exec = Jvm.exec) (hZ : Z.Warmed39 s.vm) {own R0 O nm d C : String} {index kk : Nat} {v old : Value} {ty : FieldType} (pc' : Nat) (hown : s.vm.findClass own = some m.cls) (w : (Jvm.Cond.fieldLink own index R0 nm d).before a0 Z = true) (via : Via Z R0 O nm d) (eT : T.heap = h) (F : Fld Z h a O nm d old) (E : Exa Z h a C) (L : (Jvm.Cond.lays C O nm d).before a0 Z = true ∨ ((Jvm.Cond.laysFinal C O nm d).before a0 Z = true ∧ own = O ∧ meth.name = "<init>")) (wi : (Jvm.Cond.instantiable C kk).before a0 Z = true)
    (hty : parseFieldDescriptor d = some ty) (hn : narrow ty v = v) (hf : fits ty v = true) (hd : decode c.code pc = .ok (.putfield index, 3)) (hp : pc + 3 = pc')
    (K : ∀ T' h', Stand p l e R s m args below meth c T' (locs ++ [⟨a, Jvm.RoadKit.slotOf Z O nm d⟩]) cells slots → T'.heap = h' → Wr h h' a (Jvm.RoadKit.slotOf Z O nm d) v → Fld Z h' a O nm d v → Wp p e s below Q kc ks (T'.setTop (mkF m pc' Ls st))) : Wp p e s below Q kc ks (T.setTop (mkF m pc Ls (v :: .ref a :: st))) := by
  subst hp
  obtain ⟨T', h', X', e', W, stp⟩ := Jvm.RoadKit.putF X hx hZ hown (host := "") (Or.inl w) via eT F E L wi hty hn hf (g := mkF m pc Ls (v :: .ref a :: st)) rfl rfl hd
  exact Wp.step stp (K T' h' X' e' W (F.same W))
theorem W.newO (X : Stand p l e R s m args below meth c T locs cells slots) (hx : p.tables.exec = Jvm.exec) (hZ : Z.Warmed39 s.vm) {own C : String} {index k : Nat} (pc' : Nat) (hown : s.vm.findClass own = some m.cls) (w : (Jvm.Cond.classLink own index C).before a0 Z = true) (wi : (Jvm.Cond.instantiable C k).before a0 Z = true) (wz : (Jvm.Cond.initialized C).before a0 Z = true) (eT : T.heap = h) (hd : decode c.code pc = .ok (.new index, 3)) (hc : cells + 1 ≤ R.cells) (hl : slots + k ≤ R.slots) (hp : pc + 3 = pc')
    (K : ∀ T' h' a, a = h.size → Stand p l e R s m args below meth c T' locs (cells + 1) (slots + k) → T'.heap = h' → Ext h h' → Exa Z h' a C → (∀ {O nm d : String} {ty : FieldType}, Laid Z a0 C O nm d → parseFieldDescriptor d = some ty → Fld Z h' a O nm d (defaultValue ty)) → Wp p e s below Q kc ks (T'.setTop (mkF m pc' Ls (.ref a :: st)))) : Wp p e s below Q kc ks (T.setTop (mkF m pc Ls st)) := by
  subst hp
  obtain ⟨T', h', X', e', E, A, D, -, stp⟩ := Jvm.RoadKit.newO X hx hZ hown w wi wz eT (g := mkF m pc Ls st) rfl hd hc hl
  exact Wp.step stp (K T' h' _ rfl X' e' E A D)
theorem W.initO (X : Stand p l e R s m args below meth c T locs cells slots) (hx : p.tables.exec = Jvm.exec) (hZ : Z.Warmed39 s.vm) {own : String} {idx : Nat} (pc' W : Nat) (hown : s.vm.findClass own = some m.cls) (w1 : (Jvm.Cond.methodLink own idx Lib.objectInit).before a0 Z = true) (w2 : (Jvm.Cond.instanceMethod Lib.objectInit).before a0 Z = true) (w3 : (Jvm.Cond.code Lib.objectInit ⟨#[0xb1]⟩ 1 none).before a0 Z = true) (eT : T.heap = h) (hsz : Ls.size = c.maxLocals) (hd : decode c.code pc = .ok (.invokespecial idx, 3)) (hf : 1 ≤ R.frames) (hW : (st.map fun v => v.category).sum = W) (hl : W + 12 ≤ R.locals) (hp : pc + 3 = pc')
    (K : ∀ T', Stand p l e R s m args below meth c T' locs cells slots → T'.heap = h → Wp p e s below Q kc ks (T'.setTop (mkF m pc' Ls st))) : Wp p e s below Q kc ks (T.setTop (mkF m pc Ls (.ref a :: st))) := by
  subst hp
  obtain ⟨T', X', e', stp⟩ := Jvm.RoadKit.initO X hx hZ hown w1 w2 w3 eT (g := mkF m pc Ls (.ref a :: st)) rfl hsz rfl hd hf (W := W) (by show 2 * 0 + _ ≤ _; omega) hl
  exact Wp.step stp (K T' X' e')
/-! calls -/
theorem W.callS (X : Stand p l e R s m args below meth c T locs cells slots) (hx : p.tables.exec = Jvm.exec) (hZ : Z.Warmed39 s.vm) {own : String} {index : Nat} {y : MethodName} {bytes : ByteArray} {maxL : Nat} {ret : Option FieldType} {rm : Room} {Qc : Option Value → Heap → List Loc → Prop} {ps : List FieldType} {r : Option FieldType} {stk : List Value} (pc' W : Nat) (argsL : List Value)
    (hown : s.vm.findClass own = some m.cls) (w1 : (Jvm.Cond.methodLink own index y).before a0 Z = true) (w2 : (Jvm.Cond.static y).before a0 Z = true) (w3 : (Jvm.Cond.initialized y.cls).before a0 Z = true) (w4 : (Jvm.Cond.code y bytes maxL ret).before a0 Z = true) (hy : y.cls ≠ "java/lang/invoke/MethodHandle" ∧ y.cls ≠ "java/lang/invoke/VarHandle")
    (hpd : parseMethodDescriptor y.desc = some ⟨ps, r⟩) (hlen : argsL.length = ps.length) (eT : T.heap = h) (hM : Con l Z y bytes maxL ret [] rm argsL.toArray h Qc) (hd : decode c.code pc = .ok (.invokestatic index, 3)) (hsz : Ls.size = c.maxLocals) (hstk : stk = argsL.reverse ++ rest) (hW : (rest.map fun v => v.category).sum = W)
    (hf : rm.frames + 1 ≤ R.frames) (hl : W + (maxL + 11) + rm.locals ≤ R.locals) (hc : cells + rm.cells ≤ R.cells) (hsl : slots + rm.slots ≤ R.slots) (hp : pc + 3 = pc')
    (K : ∀ v T' L, Stand p l e R s m args below meth c T' (locs ++ L) (cells + rm.cells) (slots + rm.slots) → Qc v T'.heap L → Wp p e s below Q kc ks (T'.setTop (mkF m pc' Ls (v.toList ++ rest)))) : Wp p e s below Q kc ks (T.setTop (mkF m pc Ls stk)) := by
  subst hp hstk
  obtain ⟨v, vm₁, ⟨T', L', k', n'⟩, -, X', ⟨Lc, hQ, l1, l2, l3⟩, stp⟩ := Jvm.LawKit.callS X hx (y := y) hown (mvT hZ w1) (mvT hZ w2) (mvT hZ w3) (mvT hZ w4) hy (backOf (W := W) hM hZ w4 w3 hf hl) (g := mkF m pc Ls (argsL.reverse ++ rest)) rfl hsz (argsL := argsL) (rest := rest) (lenOf hpd hlen) rfl (by show 2 * 0 + _ ≤ _; omega) hd (fun _ _ => ⟨rfl, eT, hc, hsl⟩)
  dsimp only [Pt.U, Pt.locs, Pt.cells, Pt.slots] at X' l1 l2 l3 stp hQ
  subst l1 l2 l3
  exact Wp.step stp (K v T' Lc X' hQ)
theorem W.callI (X : Stand p l e R s m args below meth c T locs cells slots) (hx : p.tables.exec = Jvm.exec) (hZ : Z.Warmed39 s.vm) {own : String} {index : Nat} {y : MethodName} {bytes : ByteArray} {maxL : Nat} {rm : Room} {Qc : Option Value → Heap → List Loc → Prop} {ps : List FieldType} {r : Option FieldType} {stk : List Value} (pc' W : Nat) (b : Addr) (argsL : List Value) (hy1 : y.name = "<init>")
    (hown : s.vm.findClass own = some m.cls) (w1 : (Jvm.Cond.methodLink own index y).before a0 Z = true) (w2 : (Jvm.Cond.instanceMethod y).before a0 Z = true) (w3 : (Jvm.Cond.initialized y.cls).before a0 Z = true) (w4 : (Jvm.Cond.code y bytes maxL none).before a0 Z = true) (hy : y.cls ≠ "java/lang/invoke/MethodHandle" ∧ y.cls ≠ "java/lang/invoke/VarHandle")
    (hpd : parseMethodDescriptor y.desc = some ⟨ps, r⟩) (hlen : argsL.length = ps.length) (eT : T.heap = h) (hM : Con l Z y bytes maxL none [] rm (.ref b :: argsL).toArray h Qc) (hd : decode c.code pc = .ok (.invokespecial index, 3)) (hsz : Ls.size = c.maxLocals) (hstk : stk = argsL.reverse ++ .ref b :: rest) (hW : (rest.map fun v => v.category).sum = W)
    (hf : rm.frames + 1 ≤ R.frames) (hl : W + (maxL + 11) + rm.locals ≤ R.locals) (hc : cells + rm.cells ≤ R.cells) (hsl : slots + rm.slots ≤ R.slots) (hp : pc + 3 = pc')
    (K : ∀ v T' L, Stand p l e R s m args below meth c T' (locs ++ L) (cells + rm.cells) (slots + rm.slots) → Qc v T'.heap L → Wp p e s below Q kc ks (T'.setTop (mkF m pc' Ls (v.toList ++ rest)))) : Wp p e s below Q kc ks (T.setTop (mkF m pc Ls stk)) := by
  subst hp hstk
  obtain ⟨v, vm₁, ⟨T', L', k', n'⟩, -, X', ⟨Lc, hQ, l1, l2, l3⟩, stp⟩ := X.specialBack hx (y := y) hy1 hown (mvT hZ w1) (mvT hZ w2) (mvT hZ w4) hy (backOf (W := W) hM hZ w4 w3 hf hl) (g := mkF m pc Ls (argsL.reverse ++ .ref b :: rest)) rfl hsz (Steps.refl _) (a := b) (argsL := argsL) (rest := rest) (lenOf hpd hlen) rfl (by show 2 * 0 + _ ≤ _; omega) hd (fun _ _ => ⟨rfl, eT, hc, hsl⟩)
  dsimp only [Pt.U, Pt.locs, Pt.cells, Pt.slots] at X' l1 l2 l3 stp hQ
  subst l1 l2 l3
  exact Wp.chain stp (K v T' Lc X' hQ)
theorem W.callV (X : Stand p l e R s m args below meth c T locs cells slots) (hx : p.tables.exec = Jvm.exec) (hZ : Z.Warmed39 s.vm) {own C : String} {index : Nat} {y : MethodName} {bytes : ByteArray} {maxL : Nat} {ret : Option FieldType} {rm : Room} {Qc : Option Value → Heap → List Loc → Prop} {ps : List FieldType} {r : Option FieldType} {stk : List Value} (pc' W : Nat) (b : Addr) (argsL : List Value)
    (hown : s.vm.findClass own = some m.cls) (w1 : (Jvm.Cond.methodLink own index y).before a0 Z = true) (w2 : (Jvm.Cond.declares y).before a0 Z = true) (w5 : (Jvm.Cond.selects C y y).before a0 Z = true) (w6 : (Jvm.Cond.instanceMethod y).before a0 Z = true) (w3 : (Jvm.Cond.initialized y.cls).before a0 Z = true) (w4 : (Jvm.Cond.code y bytes maxL ret).before a0 Z = true) (hy : y.cls ≠ "java/lang/invoke/MethodHandle" ∧ y.cls ≠ "java/lang/invoke/VarHandle")
    (hpd : parseMethodDescriptor y.desc = some ⟨ps, r⟩) (hlen : argsL.length = ps.length) (eT : T.heap = h) (E : Exa Z h b C) (hM : Con l Z y bytes maxL ret [] rm (.ref b :: argsL).toArray h Qc) (hd : decode c.code pc = .ok (.invokevirtual index, 3)) (hsz : Ls.size = c.maxLocals) (hstk : stk = argsL.reverse ++ .ref b :: rest) (hW : (rest.map fun v => v.category).sum = W)
    (hf : rm.frames + 1 ≤ R.frames) (hl : W + (maxL + 11) + rm.locals ≤ R.locals) (hc : cells + rm.cells ≤ R.cells) (hsl : slots + rm.slots ≤ R.slots) (hp : pc + 3 = pc')
    (K : ∀ v T' L, Stand p l e R s m args below meth c T' (locs ++ L) (cells + rm.cells) (slots + rm.slots) → Qc v T'.heap L → Wp p e s below Q kc ks (T'.setTop (mkF m pc' Ls (v.toList ++ rest)))) : Wp p e s below Q kc ks (T.setTop (mkF m pc Ls stk)) := by
  subst hp hstk
  obtain ⟨cq, kq, qa, qb, qc⟩ := isOf hZ eT E
  obtain ⟨v, vm₁, ⟨T', L', k', n'⟩, -, X', ⟨Lc, hQ, l1, l2, l3⟩, stp⟩ := X.virtualBack hx (y := y) (z := y) hown (mvT hZ w1) (mvT hZ w2) (notFace_of_selects (args := args) (mvT hZ w5)) (mvT hZ w5) (mvT hZ w6) hy (backOf (W := W) hM hZ w4 w3 hf hl) qa qc (g := mkF m pc Ls (argsL.reverse ++ .ref b :: rest)) rfl hsz (Steps.refl _) (argsL := argsL) (rest := rest) (lenOf hpd hlen) rfl (by show 2 * 0 + _ ≤ _; omega) hd (fun _ _ => ⟨rfl, eT, hc, hsl⟩)
  dsimp only [Pt.U, Pt.locs, Pt.cells, Pt.slots] at X' l1 l2 l3 stp hQ
  subst l1 l2 l3
  exact Wp.chain stp (K v T' Lc X' hQ)
theorem ext_refl (h : Heap) : Ext h h := ⟨Nat.le_refl _, fun _ _ q => q⟩
theorem ext_trans {h1 h2 h3 : Heap} (E : Ext h1 h2) (E' : Ext h2 h3) : Ext h1 h3 := ⟨Nat.le_trans E.1 E'.1, fun a c q => E'.2 a c (E.2 a c q)⟩
theorem ext_wr {h0 : Heap} {sl : Nat} {v : Value} (E : Ext h0 h) (W : Wr h h' a sl v) (q : h0.size ≤ a) : Ext h0 h' := by
  refine ⟨by rw [W.size]; exact E.1, fun x cx hx => ?_⟩
  obtain ⟨c', e1, -, -, -, e5, -⟩ := wr_at W (E.2 x cx hx)
  rw [e1, e5 (fun z => by subst z; exact absurd (Array.getElem?_eq_some_iff.mp hx).1 (Nat.not_lt.mpr q))]
theorem ext_keep {h0 : Heap} {ws : List Addr} (E : Ext h0 h) (K : Keep h h' ws) (q : ∀ x ∈ ws, h0.size ≤ x) : Ext h0 h' :=
  ⟨Nat.le_trans E.1 K.1, fun x cx hx => K.2.1 x cx (E.2 x cx hx) fun z => absurd (Array.getElem?_eq_some_iff.mp hx).1 (Nat.not_lt.mpr (q x z))⟩
/-! switches -/
theorem W.lswHit (X : Stand p l e R s m args below meth c T locs cells slots) (hx : p.tables.exec = Jvm.exec) {k : Int32} {dflt : Int} {pairs : Array (Int × Int)} {len : Nat} (pc' : Nat) (y off : Int) (hd : decode c.code pc = .ok (.lookupswitch dflt pairs, len)) (hso : (pairs.toList.zip (pairs.toList.drop 1)).all (fun (a, next) => a.1 < next.1) = true) (hf : pairs.find? (·.1 == k.toInt) = some (y, off)) (ho : 0 ≤ (pc : Int) + off) (hp : ((pc : Int) + off).toNat = pc') (K : Wp p e s below Q kc ks (T.setTop (mkF m pc' Ls st))) : Wp p e s below Q kc ks (T.setTop (mkF m pc Ls (.int k :: st))) := by
  subst hp; exact Wp.step (fun t q => X.lookupswitchHit hx (g := mkF m pc Ls (.int k :: st)) rfl rfl hd hso hf ho t q) K
theorem W.lswMiss (X : Stand p l e R s m args below meth c T locs cells slots) (hx : p.tables.exec = Jvm.exec) {k : Int32} {dflt : Int} {pairs : Array (Int × Int)} {len : Nat} (pc' : Nat) (hd : decode c.code pc = .ok (.lookupswitch dflt pairs, len)) (hso : (pairs.toList.zip (pairs.toList.drop 1)).all (fun (a, next) => a.1 < next.1) = true) (hf : pairs.find? (·.1 == k.toInt) = none) (ho : 0 ≤ (pc : Int) + dflt) (hp : ((pc : Int) + dflt).toNat = pc') (K : Wp p e s below Q kc ks (T.setTop (mkF m pc' Ls st))) : Wp p e s below Q kc ks (T.setTop (mkF m pc Ls (.int k :: st))) := by
  subst hp; exact Wp.step (fun t q => X.lookupswitchMiss hx (g := mkF m pc Ls (.int k :: st)) rfl rfl hd hso hf ho t q) K
theorem W.tswIn (X : Stand p l e R s m args below meth c T locs cells slots) (hx : p.tables.exec = Jvm.exec) {k : Int32} {dflt low high : Int} {offs : Array Int} {len : Nat} (pc' : Nat) (off : Int) (hd : decode c.code pc = .ok (.tableswitch dflt low high offs, len)) (hi : ¬ (k.toInt < low ∨ k.toInt > high)) (hf : offs[(k.toInt - low).toNat]? = some off) (ho : 0 ≤ (pc : Int) + off) (hp : ((pc : Int) + off).toNat = pc') (K : Wp p e s below Q kc ks (T.setTop (mkF m pc' Ls st))) : Wp p e s below Q kc ks (T.setTop (mkF m pc Ls (.int k :: st))) := by
  subst hp; exact Wp.step (fun t q => X.tableswitchIn hx (g := mkF m pc Ls (.int k :: st)) rfl rfl hd hi hf ho t q) K
/-! arrays of references -/
def Takes (Z : State) (h : Heap) (a : Addr) (C : String) : Prop := ∃ (c : Cell) (ty : FieldType), Arr Z h a c ty ∧ Ovr Z c.cls C
theorem Takes.lt {C : String} (F : Takes Z h a C) : a < h.size := by obtain ⟨c, ty, A, -⟩ := F; exact A.lt
theorem Takes.ext {C : String} (F : Takes Z h a C) (E : Ext h h') : Takes Z h' a C := by obtain ⟨c, ty, A, O⟩ := F; exact ⟨c, ty, A.ext E, O⟩
theorem Takes.wr {C : String} {sl : Nat} {v : Value} (F : Takes Z h a C) (W : Wr h h' b sl v) : Takes Z h' a C := by
  obtain ⟨c, ty, A, O⟩ := F
  by_cases q : a = b
  · subst q; exact ⟨_, ty, A.same W, O⟩
  · exact ⟨c, ty, A.other W q, O⟩
theorem Takes.sto {C : String} {y : Addr} (F : Takes Z h a C) (I : Ins Z h y C true) : Sto Z h a (.ref y) := by obtain ⟨c, ty, A, O⟩ := F; exact Sto.of A O I
theorem W.newR (X : Stand p l e R s m args below meth c T locs cells slots) (hx : p.tables.exec = Jvm.exec) (hZ : Z.Warmed39 s.vm) {own C : String} {index : Nat} {z : Int32} (pc' : Nat) (k cap : Nat) (hown : s.vm.findClass own = some m.cls) (w1 : (Jvm.Cond.classLink own index C).before a0 Z = true) (w2 : (Jvm.Cond.arrayOver (.object C)).before a0 Z = true) (eT : T.heap = h) (hd : decode c.code pc = .ok (.anewarray index, 3)) (hz : z.toInt = (k : Int)) (hcap : k ≤ cap) (hb : cap * 8 ≤ 536870912) (hc : cells + 1 ≤ R.cells) (hl : slots + cap ≤ R.slots) (hp : pc + 3 = pc')
    (K : ∀ T' h' a, a = h.size → Stand p l e R s m args below meth c T' locs (cells + 1) (slots + cap) → T'.heap = h' → Ext h h' → IArr Z h' a (.object C) k (fun _ => defaultValue (.object C)) → Takes Z h' a C → Wp p e s below Q kc ks (T'.setTop (mkF m pc' Ls (.ref a :: st)))) : Wp p e s below Q kc ks (T.setTop (mkF m pc Ls (.int z :: st))) := by
  subst hp
  obtain ⟨q1, q2⟩ := nat_of hz
  obtain ⟨T', h', cA, X', e', E, A, O, stp⟩ := Jvm.RoadKit.newR X hx hZ hown w1 w2 eT (g := mkF m pc Ls (.int z :: st)) rfl hd rfl q1 (cap := cap) (by omega) hb hc hl
  exact Wp.step stp (K T' h' _ rfl X' e' E (IArr.fresh A q2) ⟨_, _, A, O⟩)
theorem W.aastore (X : Stand p l e R s m args below meth c T locs cells slots) (hx : p.tables.exec = Jvm.exec) (hZ : Z.Warmed39 s.vm) {j : Int32} {v : Value} (pc' : Nat) (i : Nat) (eT : T.heap = h) (A : IArr Z h a ty n f) (hty : ty.isReference = true) (F : Sto Z h a v) (hj : j.toInt = (i : Int)) (hi : i < n) (hd : decode c.code pc = .ok (.aastore, 1)) (hp : pc + 1 = pc')
    (K : ∀ T' h', Stand p l e R s m args below meth c T' (locs ++ [⟨a, i⟩]) cells slots → T'.heap = h' → Wr h h' a i v → IArr Z h' a ty n (upd f i v) → Wp p e s below Q kc ks (T'.setTop (mkF m pc' Ls st))) : Wp p e s below Q kc ks (T.setTop (mkF m pc Ls (v :: .int j :: .ref a :: st))) := by
  subst hp
  obtain ⟨cl, A0, S, H⟩ := A
  obtain ⟨T', h', X', e', W, stp⟩ := stR X hx hZ eT A0 (IArr.inb S hj hi) hty F (g := mkF m pc Ls (v :: .int j :: .ref a :: st)) rfl rfl hd
  rw [(nat_of hj).2] at X' W
  exact Wp.step stp (K T' h' X' e' W (IArr.same ⟨cl, A0, S, H⟩ W))
/-! a virtual call whose method is declared in a superclass -/
theorem W.callU (X : Stand p l e R s m args below meth c T locs cells slots) (hx : p.tables.exec = Jvm.exec) (hZ : Z.Warmed39 s.vm) {own C owner : String} {index : Nat} {y z : MethodName} {bytes : ByteArray} {maxL : Nat} {ret : Option FieldType} {rm : Room} {Qc : Option Value → Heap → List Loc → Prop} {ps : List FieldType} {r : Option FieldType} {stk : List Value} (pc' W : Nat) (b : Addr) (argsL : List Value)
    (hown : s.vm.findClass own = some m.cls) (w1 : (Jvm.Cond.methodLink own index y).before a0 Z = true) (w7 : (Jvm.Cond.sameMethod y.cls owner y.name y.desc).before a0 Z = true) (w2 : (Jvm.Cond.declares ⟨owner, y.name, y.desc⟩).before a0 Z = true) (hy : owner ≠ "java/lang/invoke/MethodHandle" ∧ owner ≠ "java/lang/invoke/VarHandle") (w5 : (Jvm.Cond.selects C y z).before a0 Z = true) (w6 : (Jvm.Cond.instanceMethod z).before a0 Z = true) (w3 : (Jvm.Cond.initialized z.cls).before a0 Z = true) (w4 : (Jvm.Cond.code z bytes maxL ret).before a0 Z = true)
    (hpd : parseMethodDescriptor y.desc = some ⟨ps, r⟩) (hlen : argsL.length = ps.length) (eT : T.heap = h) (E : Exa Z h b C) (hM : Con l Z z bytes maxL ret [] rm (.ref b :: argsL).toArray h Qc) (hd : decode c.code pc = .ok (.invokevirtual index, 3)) (hsz : Ls.size = c.maxLocals) (hstk : stk = argsL.reverse ++ .ref b :: rest) (hW : (rest.map fun v => v.category).sum = W)
    (hf : rm.frames + 1 ≤ R.frames) (hl : W + (maxL + 11) + rm.locals ≤ R.locals) (hc : cells + rm.cells ≤ R.cells) (hsl : slots + rm.slots ≤ R.slots) (hp : pc + 3 = pc')
    (K : ∀ v T' L, Stand p l e R s m args below meth c T' (locs ++ L) (cells + rm.cells) (slots + rm.slots) → Qc v T'.heap L → Wp p e s below Q kc ks (T'.setTop (mkF m pc' Ls (v.toList ++ rest)))) : Wp p e s below Q kc ks (T.setTop (mkF m pc Ls stk)) := by
  subst hp hstk
  obtain ⟨cq, kq, qa, qb, qc⟩ := isOf hZ eT E
  obtain ⟨v, vm₁, ⟨T', L', k', n'⟩, -, X', ⟨Lc, hQ, l1, l2, l3⟩, stp⟩ := X.virtualBackUp hx (x := y) (y := z) (owner := owner) hown (mvT hZ w1) (mvT hZ w7) (mvT hZ w2) hy (mvT hZ w5) (mvT hZ w6) (backOf (W := W) hM hZ w4 w3 hf hl) qa qc (g := mkF m pc Ls (argsL.reverse ++ .ref b :: rest)) rfl hsz (Steps.refl _) (argsL := argsL) (rest := rest) (lenOf hpd hlen) rfl (by show 2 * 0 + _ ≤ _; omega) hd (fun _ _ => ⟨rfl, eT, hc, hsl⟩)
  dsimp only [Pt.U, Pt.locs, Pt.cells, Pt.slots] at X' l1 l2 l3 stp hQ
  subst l1 l2 l3
  exact Wp.chain stp (K v T' Lc X' hQ)
/-! a private instance method -/
theorem W.callP (X : Stand p l e R s m args below meth c T locs cells slots) (hx : p.tables.exec = Jvm.exec) (hZ : Z.Warmed39 s.vm) {own : String} {index : Nat} {y : MethodName} {bytes : ByteArray} {maxL kk : Nat} {ret : Option FieldType} {rm : Room} {Qc : Option Value → Heap → List Loc → Prop} {ps : List FieldType} {r : Option FieldType} {stk : List Value} (pc' W : Nat) (b : Addr) (argsL : List Value)
    (hown : s.vm.findClass own = some m.cls) (w1 : (Jvm.Cond.methodLink own index y).before a0 Z = true) (w2 : (Jvm.Cond.instanceMethod y).before a0 Z = true) (w5 : (Jvm.Cond.privateMethod y).before a0 Z = true) (w6 : (Jvm.Cond.instantiable y.cls kk).before a0 Z = true) (w3 : (Jvm.Cond.initialized y.cls).before a0 Z = true) (w4 : (Jvm.Cond.code y bytes maxL ret).before a0 Z = true) (hy : y.cls ≠ "java/lang/invoke/MethodHandle" ∧ y.cls ≠ "java/lang/invoke/VarHandle")
    (hpd : parseMethodDescriptor y.desc = some ⟨ps, r⟩) (hlen : argsL.length = ps.length) (eT : T.heap = h) {C : String} (E : Exa Z h b C) (hM : Con l Z y bytes maxL ret [] rm (.ref b :: argsL).toArray h Qc) (hd : decode c.code pc = .ok (.invokevirtual index, 3)) (hsz : Ls.size = c.maxLocals) (hstk : stk = argsL.reverse ++ .ref b :: rest) (hW : (rest.map fun v => v.category).sum = W)
    (hf : rm.frames + 1 ≤ R.frames) (hl : W + (maxL + 11) + rm.locals ≤ R.locals) (hc : cells + rm.cells ≤ R.cells) (hsl : slots + rm.slots ≤ R.slots) (hp : pc + 3 = pc')
    (K : ∀ v T' L, Stand p l e R s m args below meth c T' (locs ++ L) (cells + rm.cells) (slots + rm.slots) → Qc v T'.heap L → Wp p e s below Q kc ks (T'.setTop (mkF m pc' Ls (v.toList ++ rest)))) : Wp p e s below Q kc ks (T.setTop (mkF m pc Ls stk)) := by
  subst hp hstk
  obtain ⟨cq, q, q'⟩ := E.cell
  have hpr := Cond.privateMethod_at (mvP hZ w5 (args := args))
  obtain ⟨c2, k2, i1, i2, i3, i4, -⟩ := Cond.instantiable_spec (mvT (args := args) hZ w6)
  have hsel := selects_self_of_private i1 i2 (Bool.or_eq_false_iff.mp i4).1 hpr (mvT (args := args) hZ w2) hy
  obtain ⟨v, vm₁, ⟨T', L', k', n'⟩, -, X', ⟨Lc, hQ, l1, l2, l3⟩, stp⟩ := X.privateBack hx (y := y) hown (mvT hZ w1) (mvT hZ w2) hsel hpr (mvT hZ w4) hy (backOf (W := W) hM hZ w4 w3 hf hl) (g := mkF m pc Ls (argsL.reverse ++ .ref b :: rest)) rfl hsz (Steps.refl _) (a := b) (by rw [eT]; exact q) q' (argsL := argsL) (rest := rest) (lenOf hpd hlen) rfl (by show 2 * 0 + _ ≤ _; omega) hd (fun _ _ => ⟨rfl, eT, hc, hsl⟩)
  dsimp only [Pt.U, Pt.locs, Pt.cells, Pt.slots] at X' l1 l2 l3 stp hQ
  subst l1 l2 l3
  exact Wp.chain stp (K v T' Lc X' hQ)
/-! arraycopy of primitives -/
theorem own_getD {n : Nat} {f : Nat → Value} {d : Value} {q : Nat} (hq : q < n) : ((List.range n).map f).getD q d = f q := by
  rw [List.getD_eq_getElem?_getD, List.getElem?_map, List.getElem?_range hq]; rfl
theorem own_splice {vd us : List Value} {j k q : Nat} {d : Value} (hu : us.length = k) (hjk : j + k ≤ vd.length) : (vd.take j ++ us ++ vd.drop (j + k)).getD q d = if j ≤ q ∧ q < j + k then us.getD (q - j) d else vd.getD q d := by
  simp only [List.getD_eq_getElem?_getD]
  have l1 : (vd.take j).length = j := by rw [List.length_take]; omega
  by_cases h1 : q < j
  · rw [List.append_assoc, List.getElem?_append_left (by omega), List.getElem?_take_of_lt h1, if_neg (by omega)]
  · by_cases h2 : q < j + k
    · rw [List.getElem?_append_left (by rw [List.length_append]; omega), List.getElem?_append_right (by omega), l1, if_pos ⟨by omega, h2⟩]
    · rw [List.getElem?_append_right (by rw [List.length_append]; omega), List.getElem?_drop, if_neg (by omega), List.length_append, l1, hu]
      congr 2
      omega
theorem IArr.arv (A : IArr Z h a ty n f) (hn : n < 2147483648) (hf : ∀ i, i < n → fits ty (f i) = true) : ∃ k, Arv Z h a k ty (Int32.ofNat n) ((List.range n).map f) .null := by
  obtain ⟨c, A, S, H⟩ := A
  obtain ⟨q1, q2⟩ := nat_of (own_ofNat hn)
  refine ⟨c.cls, c, A, rfl, by rw [q2, S], q1, fun i hi => ?_, fun i hi => ?_⟩
  · rw [own_getD (by omega)]; exact H i (by omega)
  · rw [own_getD (by omega)]; exact hf i (by omega)
theorem W.acopy (X : Stand p l e R s m args below meth c T locs cells slots) (hx : p.tables.exec = Jvm.exec) (hZ : Z.Warmed39 s.vm) {own : String} {index : Nat} {sp dp nn : Int32} {n' : Nat} {g : Nat → Value} {n0 : Nat} (pc' W i j k : Nat) (hown : s.vm.findClass own = some m.cls) (w1 : (Jvm.Cond.methodLink own index Jvm.Stand.acN).before a0 Z = true) (w2 : (Jvm.Cond.native Jvm.Stand.acN).before a0 Z = true) (w3 : (Jvm.Cond.static Jvm.Stand.acN).before a0 Z = true) (w4 : (Jvm.Cond.initialized "java/lang/System").before a0 Z = true) (eT : T.heap = h)
    (A : IArr Z h a ty n f) (B : IArr Z h b ty n' g) (hty : refKind ty = false) (hfa : ∀ i, i < n → fits ty (f i) = true) (hfb : ∀ i, i < n' → fits ty (g i) = true) (hsp : sp.toInt = (i : Int)) (hdp : dp.toInt = (j : Int)) (hnn : nn.toInt = (k : Int)) (h4 : i + k ≤ n) (h5 : j + k ≤ n') (hn : n < 2147483648) (hn' : n' < 2147483648) (N : Fr n0 locs) (ge : n0 ≤ b)
    (hsz : Ls.size = c.maxLocals) (hd : decode c.code pc = .ok (.invokestatic index, 3)) (hf : 1 ≤ R.frames) (hW : (st.map fun v => v.category).sum = W) (hlo : W + (nativeFrameWords "java/lang/System" "arraycopy" 5 + 11) ≤ R.locals) (hp : pc + 3 = pc')
    (K : ∀ T' h' L, Stand p l e R s m args below meth c T' L cells slots → T'.heap = h' → Fr n0 L → Keep h h' [b] → IArr Z h' b ty n' (fun q => if j ≤ q ∧ q < j + k then f (i + (q - j)) else g q) → Wp p e s below Q kc ks (T'.setTop (mkF m pc' Ls st))) : Wp p e s below Q kc ks (T.setTop (mkF m pc Ls (.int nn :: .int dp :: .ref b :: .int sp :: .ref a :: st))) := by
  subst hp
  obtain ⟨ka, VA⟩ := A.arv hn hfa
  obtain ⟨kb, VB⟩ := B.arv hn' hfb
  obtain ⟨s1, s2⟩ := nat_of hsp
  obtain ⟨d1, d2⟩ := nat_of hdp
  obtain ⟨m1, m2⟩ := nat_of hnn
  obtain ⟨-, z2⟩ := nat_of (own_ofNat hn)
  obtain ⟨-, z2'⟩ := nat_of (own_ofNat hn')
  obtain ⟨T', h', L, X', e', N', Kp, V', stp⟩ := cpA X hx hZ hown w1 w2 w3 w4 eT VA VB (Or.inl ⟨rfl, hty⟩) s1 d1 m1 (by rw [s2, m2, z2]; exact h4) (by rw [d2, m2, z2']; exact h5) rfl (by rw [d2, m2]; simpa using h5) N ge (g := mkF m pc Ls (.int nn :: .int dp :: .ref b :: .int sp :: .ref a :: st)) rfl hsz rfl hd hf (W := W) (by show 2 * 0 + _ ≤ _; omega) hlo
  refine Wp.step stp (K T' h' L X' e' N' Kp ?_)
  obtain ⟨c', A', -, S', -, H', -⟩ := V'
  refine ⟨c', A', by rw [S', z2'], fun q hq => ?_⟩
  rw [H' q (by rw [S', z2']; exact hq), d2, m2, s2, own_splice (by simp) (by simpa using h5)]
  dsimp only
  by_cases hh : j ≤ q ∧ q < j + k
  · rw [if_pos hh, if_pos hh, own_getD (by omega), own_getD (by omega)]
  · rw [if_neg hh, if_neg hh, own_getD hq]
def BArr (Z : State) (h : Heap) (a : Addr) (ty : FieldType) (n : Nat) : Prop := ∃ f, IArr Z h a ty n f ∧ ∀ i, i < n → fits ty (f i) = true
theorem BArr.lt (A : BArr Z h a ty n) : a < h.size := by obtain ⟨f, A, -⟩ := A; exact A.lt
theorem BArr.ext (A : BArr Z h a ty n) (E : Ext h h') : BArr Z h' a ty n := by obtain ⟨f, A, r⟩ := A; exact ⟨f, A.ext E, r⟩
theorem BArr.other {sl : Nat} {v : Value} (A : BArr Z h b ty n) (W : Wr h h' a sl v) (q : b ≠ a) : BArr Z h' b ty n := by obtain ⟨f, A, r⟩ := A; exact ⟨f, A.other W q, r⟩
theorem BArr.keep {ws : List Addr} (A : BArr Z h a ty n) (K : Keep h h' ws) (q : a ∉ ws) : BArr Z h' a ty n := by obtain ⟨f, A, r⟩ := A; exact ⟨f, A.keep K q, r⟩
theorem IArr.barr (A : IArr Z h a ty n (fun _ => defaultValue ty)) : BArr Z h a ty n := ⟨_, A, fun i _ => by cases ty <;> rfl⟩
theorem fits_splice {g : Nat → Value} {n' i j k : Nat} (hfa : ∀ i, i < n → fits ty (f i) = true) (hfb : ∀ i, i < n' → fits ty (g i) = true) (h4 : i + k ≤ n) : ∀ q, q < n' → fits ty ((fun q => if j ≤ q ∧ q < j + k then f (i + (q - j)) else g q) q) = true := fun q hq => by
  dsimp only
  split
  · exact hfa _ (by omega)
  · exact hfb _ hq
theorem own_ladd {x y : Int64} (h1 : -9223372036854775808 ≤ x.toInt + y.toInt) (h2 : x.toInt + y.toInt < 9223372036854775808) : (x + y).toInt = x.toInt + y.toInt := by
  have a : ((x + y).toInt - (x.toInt + y.toInt)) % 18446744073709551616 = 0 := by rw [Int64.toInt_add]; exact bm64 _
  have r := rng64 (x + y)
  omega
theorem own_lmul {x y : Int64} (h1 : -9223372036854775808 ≤ x.toInt * y.toInt) (h2 : x.toInt * y.toInt < 9223372036854775808) : (x * y).toInt = x.toInt * y.toInt := by
  have a : ((x * y).toInt - (x.toInt * y.toInt)) % 18446744073709551616 = 0 := by rw [Int64.toInt_mul]; exact bm64 _
  have r := rng64 (x * y)
  omega
theorem W.newarrE (X : Stand p l e R s m args below meth c T locs cells slots) (hx : p.tables.exec = Jvm.exec) (hZ : Z.Warmed39 s.vm) {aty : ArrayType} {z : Int32} (pc' : Nat) (k cap : Nat) (ad : String) (w : (Jvm.Cond.arrayClass (newarray.typeOf aty)).before a0 Z = true) (eT : T.heap = h) (hd : decode c.code pc = .ok (.newarray aty, 2)) (had : "[" ++ (newarray.typeOf aty).toString = ad) (hz : z.toInt = (k : Int)) (hcap : k ≤ cap) (hb : cap * 8 ≤ 536870912) (hc : cells + 1 ≤ R.cells) (hl : slots + cap ≤ R.slots) (hp : pc + 2 = pc')
    (K : ∀ T' h' a, a = h.size → Stand p l e R s m args below meth c T' locs (cells + 1) (slots + cap) → T'.heap = h' → Ext h h' → IArr Z h' a (newarray.typeOf aty) k (fun _ => defaultValue (newarray.typeOf aty)) → Exa Z h' a ad → Wp p e s below Q kc ks (T'.setTop (mkF m pc' Ls (.ref a :: st)))) : Wp p e s below Q kc ks (T.setTop (mkF m pc Ls (.int z :: st))) := by
  subst hp
  obtain ⟨q1, q2⟩ := nat_of hz
  obtain ⟨T', h', cA, X', e', E, A, EA, stp⟩ := newPE X hx hZ w eT (g := mkF m pc Ls (.int z :: st)) rfl hd rfl q1 (cap := cap) (by omega) hb hc hl had
  exact Wp.step stp (K T' h' _ rfl X' e' E (IArr.fresh A q2) EA)
def TakesA (Z : State) (h : Heap) (a : Addr) (C : String) : Prop := ∃ (c : Cell) (t ty : FieldType), Arr Z h a c t ∧ OvrA Z c.cls ty C
theorem TakesA.lt {C : String} (F : TakesA Z h a C) : a < h.size := by obtain ⟨c, t, ty, A, -⟩ := F; exact A.lt
theorem TakesA.ext {C : String} (F : TakesA Z h a C) (E : Ext h h') : TakesA Z h' a C := by obtain ⟨c, t, ty, A, O⟩ := F; exact ⟨c, t, ty, A.ext E, O⟩
theorem TakesA.wr {C : String} {sl : Nat} {v : Value} (F : TakesA Z h a C) (W : Wr h h' b sl v) : TakesA Z h' a C := by
  obtain ⟨c, t, ty, A, O⟩ := F
  by_cases q : a = b
  · subst q; exact ⟨_, t, ty, A.same W, O⟩
  · exact ⟨c, t, ty, A.other W q, O⟩
theorem TakesA.keep {C : String} {ws : List Addr} (F : TakesA Z h a C) (K : Keep h h' ws) (q : a ∉ ws) : TakesA Z h' a C := by obtain ⟨c, t, ty, A, O⟩ := F; exact ⟨c, t, ty, ⟨K.2.1 a c A.1 q, A.2⟩, O⟩
theorem TakesA.sto {C : String} {y : Addr} (F : TakesA Z h a C) (I : Ins Z h y C true) : Sto Z h a (.ref y) := by obtain ⟨c, t, ty, A, O⟩ := F; exact Sto.ofVA A rfl O I
theorem W.newRA (X : Stand p l e R s m args below meth c T locs cells slots) (hx : p.tables.exec = Jvm.exec) (hZ : Z.Warmed39 s.vm) {own : String} {ty : FieldType} {index : Nat} {z : Int32} (pc' : Nat) (k cap : Nat) (C : String) (hown : s.vm.findClass own = some m.cls) (hC : (FieldType.array ty).toString = C) (w1 : (Jvm.Cond.classLink own index C).before a0 Z = true) (w2 : (Jvm.Cond.arrayOver (.array ty)).before a0 Z = true) (eT : T.heap = h) (hd : decode c.code pc = .ok (.anewarray index, 3)) (hz : z.toInt = (k : Int)) (hcap : k ≤ cap) (hb : cap * 8 ≤ 536870912) (hc : cells + 1 ≤ R.cells) (hl : slots + cap ≤ R.slots) (hp : pc + 3 = pc')
    (K : ∀ T' h' a, a = h.size → Stand p l e R s m args below meth c T' locs (cells + 1) (slots + cap) → T'.heap = h' → Ext h h' → IArr Z h' a (.array ty) k (fun _ => defaultValue (.array ty)) → TakesA Z h' a C → Wp p e s below Q kc ks (T'.setTop (mkF m pc' Ls (.ref a :: st)))) : Wp p e s below Q kc ks (T.setTop (mkF m pc Ls (.int z :: st))) := by
  subst hp
  obtain ⟨q1, q2⟩ := nat_of hz
  obtain ⟨T', h', cA, X', e', E, A, -, O, stp⟩ := Jvm.RoadKit.newRA X hx hZ hown hC w1 w2 eT (g := mkF m pc Ls (.int z :: st)) rfl hd rfl q1 (cap := cap) (by omega) hb hc hl rfl
  exact Wp.step stp (K T' h' _ rfl X' e' E (IArr.fresh A q2) ⟨_, _, _, A, O⟩)
end W
end Jvm.OwnW
namespace Jvm.OwnW
open Sem ClassFile Op Lib Jvm.Stand Jvm.Free Jvm.LawKit Jvm.RoadKit
section W
variable {p : Program} {l : Launch} {e : Env} {R : Room} {s : State} {m : MethodId} {args : Array Value} {below : List Frame} {meth : Method} {c : Code} {T : State} {locs : List Loc} {cells slots : Nat} {Q : Option Value → Heap → List Loc → Prop} {kc ks : Nat} {Z : State} {a0 : Array Value} {h h' : Heap} {pc : Nat} {Ls : Array Slot} {st rest : List Value} {a b : Addr} {n : Nat} {f : Nat → Value} {ty : FieldType}
theorem W.ldcF (X : Stand p l e R s m args below meth c T locs cells slots) (hx : p.tables.exec = Jvm.exec) (hZ : Z.Warmed39 s.vm) {own : String} {index : Nat} {v : UInt32} (pc' : Nat) (hown : s.vm.findClass own = some m.cls) (w : (Jvm.Cond.constantFloat own index v).before a0 Z = true) (hd : decode c.code pc = .ok (.ldc index, 2)) (hp : pc + 2 = pc') (K : Wp p e s below Q kc ks (T.setTop (mkF m pc' Ls (.float v :: st)))) : Wp p e s below Q kc ks (T.setTop (mkF m pc Ls st)) := by
  subst hp; exact Wp.step (fun t k => X.ldcFloatC hx hown (mvT hZ w) (g := mkF m pc Ls st) rfl hd t k) K
/-- a statics cell is no object: what is written in objects leaves it -/
theorem Sta.keepE {C n d D : String} {w : Value} (F : Sta Z h C n d w) (K : Keep h h' [a]) (E : Exa Z h a D) : Sta Z h' C n d w := by
  obtain ⟨cf, i, k, f, st, cell, h1, h2, h3, h4, h5, h6, r⟩ := F
  obtain ⟨cq, q, q'⟩ := E.cell
  refine ⟨cf, i, k, f, st, cell, h1, h2, h3, h4, K.2.1 _ _ h5 (ninS (fun z => ?_) nin0), h6, r⟩
  subst z
  cases q.symm.trans h5
  revert h6 q'
  cases cell.vm <;> simp [VmData.isStatics]
theorem Takes.keep {C : String} {ws : List Addr} (F : Jvm.OwnW.Takes Z h a C) (K : Keep h h' ws) (q : a ∉ ws) : Jvm.OwnW.Takes Z h' a C := by obtain ⟨c, t, A, O⟩ := F; exact ⟨c, t, ⟨K.2.1 a c A.1 q, A.2⟩, O⟩
theorem Steps.own_initWarm {tb : Tables} [Ours tb] {e : Env} {below : List Frame} {s U : State} {mm : MethodId} {cc : Code} (h : At U mm cc below) (hexec : tb.exec = Jvm.exec) (hW : s.WarmedH U.vm)
    {own : String} (hown : s.vm.findClass own = some mm.cls) {idx : Nat} {t : MethodName} (ht1 : t.name = "<init>")
    (hnot : t.cls ≠ "java/lang/invoke/MethodHandle" ∧ t.cls ≠ "java/lang/invoke/VarHandle") {args : Array Value} {bytes : ByteArray} {maxL : Nat}
    (hlink : (Jvm.Cond.methodRef own idx t).before args s = true) (hinst : (Jvm.Cond.instanceMethod t).before args s = true) (hcode : (Jvm.Cond.code t bytes maxL none).before args s = true)
    {f : JFrame} (hf : f.method = mm) {a : Addr} {argsL rest : List Value} (hlen : ∀ sig, parseMethodDescriptor t.desc = some sig → argsL.length = sig.parameters.length) (hstack : f.stack = argsL.reverse ++ .ref a :: rest) (hd : decode cc.code f.pc = .ok (.invokespecial idx, 3)) :
    ∃ tm, s.methodNamed? t = some tm ∧
      ∀ target, (∀ acts, Steps tb e below (doInvoke e (U.setTop { f with stack := rest }) acts tm (.ref a :: argsL).toArray).1 target) → Steps tb e below (U.setTop f) target := by
  subst hf
  obtain ⟨obj, methO, hnO, hmO, hstO, habO⟩ := Cond.instanceMethod_spec hinst
  obtain ⟨methO', cO, hmO', hcO, hbO, hlO, -, hlockO, -, hsigO⟩ := Cond.code_spec hnO hcode
  cases hmO.symm.trans hmO'
  obtain ⟨kO, hkO, hnameO⟩ := className_of_methodNamed hnO
  obtain ⟨hnameMO, hdescO⟩ := name_of_methodNamed hnO hmO
  have hl' := Cond.methodRef_warmed hW hnO hnot hlink
  obtain ⟨m', c', hm', hreadyM, hfind', hres⟩ := Cond.methodRef_named e (cur := f.method.cls) (by rw [State.vm_setVm, hW.alike.findClass]; exact hown) hl'
  rw [State.methodFound?_setVm_of_named hW.alike hnO hnot] at hm'
  have hmm : obj = m' := Option.some.inj ((State.methodFound?_of_named hnO hnot).symm.trans hm')
  subst hmm
  have hcc : c' = obj.cls := by
    rw [State.vm_setVm, hW.alike.findClass, findClass_of_methodNamed hnO] at hfind'
    exact (Option.some.inj hfind').symm
  subst hcc
  rw [State.vm_setVm] at hreadyM hres
  obtain ⟨kO₂, hkO₂, heO₂⟩ := hW.alike.2.2 _ _ hkO
  have hmO₂ : U.vm.method? obj = some methO := by rw [hW.alike.method?]; exact hmO
  have hfound : lookupSpecial U.vm obj.cls "<init>" methO.desc = .method obj := by
    rw [hW.alike.lookupSpecial, hdescO, ← ht1]; exact lookupSpecial_of_named hnO hmO hstO
  refine ⟨obj, hnO, fun target hrest => ?_⟩
  jvm_step h [hexec, hd,
    invokespecial.wp_init (e := e) (s := U) (k := kO₂) (meth := methO) (m := obj) (a := a) (args := argsL) (rest := rest) (f := f)
      h.top hres hreadyM hkO₂ hmO₂ (by rw [hnameMO]; exact ht1) hstO habO hfound (hlen _ hsigO) hstack]
  exact hrest
theorem mvRef {y : MethodName} {own : String} {index : Nat} (hZ : Z.Warmed39 s.vm) (w2 : (Jvm.Cond.instanceMethod y).before a0 Z = true) (hy : y.cls ≠ "java/lang/invoke/MethodHandle" ∧ y.cls ≠ "java/lang/invoke/VarHandle") (w : (Jvm.Cond.methodRef own index y).before a0 Z = true) : (Jvm.Cond.methodRef own index y).before args s = true := by
  obtain ⟨obj, methO, hnO, -⟩ := Cond.instanceMethod_spec w2
  have h1 : (Jvm.Cond.methodRef own index y).before a0 (Z.setVm s.vm) = true := Cond.methodRef_warmed39 hZ hnO hy w
  exact h1
theorem W.callIR (X : Stand p l e R s m args below meth c T locs cells slots) (hx : p.tables.exec = Jvm.exec) (hZ : Z.Warmed39 s.vm) {own : String} {index : Nat} {y : MethodName} {bytes : ByteArray} {maxL : Nat} {rm : Room} {Qc : Option Value → Heap → List Loc → Prop} {ps : List FieldType} {r : Option FieldType} {stk : List Value} (pc' W : Nat) (b : Addr) (argsL : List Value) (hy1 : y.name = "<init>")
    (hown : s.vm.findClass own = some m.cls) (w1 : (Jvm.Cond.methodRef own index y).before a0 Z = true) (w2 : (Jvm.Cond.instanceMethod y).before a0 Z = true) (w3 : (Jvm.Cond.initialized y.cls).before a0 Z = true) (w4 : (Jvm.Cond.code y bytes maxL none).before a0 Z = true) (hy : y.cls ≠ "java/lang/invoke/MethodHandle" ∧ y.cls ≠ "java/lang/invoke/VarHandle")
    (hpd : parseMethodDescriptor y.desc = some ⟨ps, r⟩) (hlen : argsL.length = ps.length) (eT : T.heap = h) (hM : Con l Z y bytes maxL none [] rm (.ref b :: argsL).toArray h Qc) (hd : decode c.code pc = .ok (.invokespecial index, 3)) (hsz : Ls.size = c.maxLocals) (hstk : stk = argsL.reverse ++ .ref b :: rest) (hW : (rest.map fun v => v.category).sum = W)
    (hf : rm.frames + 1 ≤ R.frames) (hl : W + (maxL + 11) + rm.locals ≤ R.locals) (hc : cells + rm.cells ≤ R.cells) (hsl : slots + rm.slots ≤ R.slots) (hp : pc + 3 = pc')
    (K : ∀ v T' L, Stand p l e R s m args below meth c T' (locs ++ L) (cells + rm.cells) (slots + rm.slots) → Qc v T'.heap L → Wp p e s below Q kc ks (T'.setTop (mkF m pc' Ls (v.toList ++ rest)))) : Wp p e s below Q kc ks (T.setTop (mkF m pc Ls stk)) := by
  subst hp hstk
  obtain ⟨mk, hnamed, hstep⟩ := Steps.own_initWarm (e := e) X.here hx X.warmed hown hy1 hy (mvRef (args := args) hZ w2 hy w1) (mvT hZ w2) (mvT hZ w4) (f := mkF m pc Ls (argsL.reverse ++ .ref b :: rest)) rfl (a := b) (argsL := argsL) (rest := rest) (lenOf hpd hlen) rfl hd
  obtain ⟨v, ⟨T', L', k', n'⟩, X', ⟨Lc, hQ, l1, l2, l3⟩, stp⟩ := backOf (W := W) (len := 3) hM hZ w4 w3 hf hl m meth c ⟨T, locs, cells, slots⟩ (mkF m pc Ls rest) (.invokespecial index) mk (.ref b :: argsL).toArray X rfl hsz hd (by show 2 * 0 + (rest.map fun v => v.category).sum ≤ W; omega) (X.named hnamed) ⟨rfl, eT, hc, hsl⟩
  dsimp only [Pt.U, Pt.locs, Pt.cells, Pt.slots] at X' l1 l2 l3 stp hQ
  subst l1 l2 l3
  exact Wp.chain (hstep _ fun acts => by rw [doInvoke_state]; exact stp) (K v T' Lc X' hQ)
end W
end Jvm.OwnW
namespace Jvm.Pilot.@@N@@
open Jvm Jvm.ClassFile Sem Op Lib Jvm.Free Jvm.Stand Jvm.LawKit Jvm.RoadKit Jvm.OwnW Bundle Jvm.Pilot.@@N@@.Jvm.D
theorem pd_0 : parseMethodDescriptor "()V" = some ⟨[], none⟩ := by decide +kernel
theorem pd_1 : parseMethodDescriptor "(II)I" = some ⟨[.int, .int], some .int⟩ := by decide +kernel
theorem pd_2 : parseMethodDescriptor "(I)V" = some ⟨[.int], none⟩ := by decide +kernel
theorem pd_3 : parseMethodDescriptor "(ILcom/example/margrave/margrave/engine/LotGroups;Ljava/util/function/LongBinaryOperator;)V" = some ⟨[.int, (.object "com/example/margrave/margrave/engine/LotGroups"), (.object "java/util/function/LongBinaryOperator")], none⟩ := by decide +kernel
theorem pd_4 : parseMethodDescriptor "(I)Lcom/example/margrave/margrave/engine/Holding;" = some ⟨[.int], some (.object "com/example/margrave/margrave/engine/Holding")⟩ := by decide +kernel
theorem pd_5 : parseMethodDescriptor "()J" = some ⟨[], some .long⟩ := by decide +kernel
theorem pd_6 : parseMethodDescriptor "(Z)V" = some ⟨[.boolean], none⟩ := by decide +kernel
theorem pd_7 : parseMethodDescriptor "(ILjava/math/BigDecimal;)Lcom/example/margrave/margrave/engine/Holding;" = some ⟨[.int, (.object "java/math/BigDecimal")], some (.object "com/example/margrave/margrave/engine/Holding")⟩ := by decide +kernel
theorem pd_8 : parseMethodDescriptor "(Ljava/math/BigDecimal;J)V" = some ⟨[(.object "java/math/BigDecimal"), .long], none⟩ := by decide +kernel
theorem pd_9 : parseMethodDescriptor "(IILcom/example/margrave/margrave/OpeningTrade;J)V" = some ⟨[.int, .int, (.object "com/example/margrave/margrave/OpeningTrade"), .long], none⟩ := by decide +kernel
theorem pd_10 : parseMethodDescriptor "(I)Z" = some ⟨[.int], some .boolean⟩ := by decide +kernel
theorem pd_11 : parseMethodDescriptor "(I)J" = some ⟨[.int], some .long⟩ := by decide +kernel
theorem pd_12 : parseMethodDescriptor "(ILjava/math/BigDecimal;Ljava/math/BigDecimal;JI)V" = some ⟨[.int, (.object "java/math/BigDecimal"), (.object "java/math/BigDecimal"), .long, .int], none⟩ := by decide +kernel
def HG (Z : State) (h : Heap) (k : Addr) (x : Int64) : Prop := Exa Z h k "com/example/margrave/margrave/engine/Holding" ∧ Fld Z h k "com/example/margrave/margrave/engine/Holding" "quantity" "J" (.long x)
def HN (Z : State) (h : Heap) (k qa pa : Addr) : Prop := Exa Z h k "com/example/margrave/margrave/engine/Holding" ∧ Fld Z h k "com/example/margrave/margrave/engine/Holding" "quantities" "[J" (.ref qa) ∧ Fld Z h k "com/example/margrave/margrave/engine/Holding" "prices" "[Ljava/math/BigDecimal;" (.ref pa) ∧ Fld Z h k "com/example/margrave/margrave/engine/Holding" "entries" "I" (.int 0) ∧ Fld Z h k "com/example/margrave/margrave/engine/Holding" "oldest" "I" (.int 0) ∧ Fld Z h k "com/example/margrave/margrave/engine/Holding" "quantity" "J" (.long 0) ∧ IArr Z h qa .long 1 (fun _ => .long 0) ∧ IArr Z h pa (.object "java/math/BigDecimal") 1 (fun _ => .null)
def HO (Z : State) (h : Heap) (n0 : Nat) (o mb bf : Addr) (n : Nat) (fb : Nat → Int64) (ev : Value) : Prop :=
  n0 ≤ o ∧ n0 ≤ bf ∧ Exa Z h o "com/example/margrave/margrave/engine/Holdings" ∧ Fld Z h o "com/example/margrave/margrave/engine/Holdings" "groups" "Lcom/example/margrave/margrave/engine/LotGroups;" .null ∧ Fld Z h o "com/example/margrave/margrave/engine/Holdings" "member" "[I" (.ref mb) ∧ Fld Z h o "com/example/margrave/margrave/engine/Holdings" "before" "[J" (.ref bf) ∧ Fld Z h o "com/example/margrave/margrave/engine/Holdings" "entries" "[Lcom/example/margrave/margrave/engine/Holding;" ev ∧ Fld Z h o "com/example/margrave/margrave/engine/Holdings" "feesPast" "[Ljava/math/BigDecimal;" .null ∧ IArr Z h mb .int n (fun _ => .int 0) ∧ IArr Z h bf .long n (fun j => .long (fb j)) ∧ o ≠ mb ∧ o ≠ bf ∧ mb ≠ bf
def HE (Z : State) (h : Heap) (n0 : Nat) (o mb bf : Addr) (n : Nat) (g : Nat → Value) (ev : Value) : Prop :=
  (ev = .null ∧ ∀ j, g j = .null) ∨ ∃ en : Addr, ev = .ref en ∧ n0 ≤ en ∧ IArr Z h en (.object "com/example/margrave/margrave/engine/Holding") n g ∧ Jvm.OwnW.Takes Z h en "com/example/margrave/margrave/engine/Holding" ∧ o ≠ en ∧ mb ≠ en ∧ bf ≠ en
def HGs (Z : State) (h : Heap) (o bf : Addr) (ev : Value) (g : Nat → Value) (xs : Nat → Int64) (sk : Nat) : Prop :=
  ∀ j, j < 99 → j ≠ sk → g j = .null ∨ ∃ k : Addr, g j = .ref k ∧ HG Z h k (xs j) ∧ k ≠ o ∧ k ≠ bf ∧ ev ≠ .ref k
def HJ (Z : State) (h : Heap) (n0 : Nat) (o : Addr) (n : Nat) (fb : Nat → Int64) (g : Nat → Value) (xs : Nat → Int64) : Prop :=
  ∃ (mb bf : Addr) (ev : Value), HO Z h n0 o mb bf n fb ev ∧ HE Z h n0 o mb bf n g ev ∧ HGs Z h o bf ev g xs 99
def up (f : Nat → Int64) (i : Nat) (v : Int64) : Nat → Int64 := fun k => if k = i then v else f k
theorem up_same (f : Nat → Int64) (i : Nat) (v : Int64) : up f i v i = v := by simp [up]
theorem up_ne {f : Nat → Int64} {i k : Nat} {v : Int64} (q : k ≠ i) : up f i v k = f k := by simp [up, q]
theorem HJ.exa {Z : State} {h : Heap} {n0 : Nat} {o : Addr} {n : Nat} {fb : Nat → Int64} {g : Nat → Value} {xs : Nat → Int64} (J : HJ Z h n0 o n fb g xs) : Exa Z h o "com/example/margrave/margrave/engine/Holdings" := by
  obtain ⟨mb, bf, ev, O, -, -⟩ := J; exact O.2.2.1
section K
variable {Z : State} {h h' : Heap} {n0 : Nat} {o mb bf : Addr} {n : Nat} {fb : Nat → Int64} {g : Nat → Value} {xs : Nat → Int64} {ev : Value} {ws : List Addr} {sk : Nat}
theorem own_tk {a : Addr} {C : String} (F : Jvm.OwnW.Takes Z h a C) (K : Keep h h' ws) (q : a ∉ ws) : Jvm.OwnW.Takes Z h' a C := by obtain ⟨c, t, A, O⟩ := F; exact ⟨c, t, ⟨K.2.1 a c A.1 q, A.2⟩, O⟩
theorem HO.keep (O : HO Z h n0 o mb bf n fb ev) (K : Keep h h' ws) (q1 : o ∉ ws) (q2 : mb ∉ ws) (q3 : bf ∉ ws) : HO Z h' n0 o mb bf n fb ev := by
  obtain ⟨g1, g2, E, F1, F2, F3, F4, F5, A1, A2, r⟩ := O
  exact ⟨g1, g2, E.keep K, F1.keep K q1, F2.keep K q1, F3.keep K q1, F4.keep K q1, F5.keep K q1, A1.keep K q2, A2.keep K q3, r⟩
theorem HE.keep (E : HE Z h n0 o mb bf n g ev) (K : Keep h h' ws) (q : ∀ en, ev = .ref en → en ∉ ws) : HE Z h' n0 o mb bf n g ev := by
  rcases E with E | ⟨en, e1, e2, A, F, r⟩
  · exact Or.inl E
  · exact Or.inr ⟨en, e1, e2, A.keep K (q en e1), own_tk F K (q en e1), r⟩
theorem HGs.keep (S : HGs Z h o bf ev g xs sk) (K : Keep h h' ws) (q : ∀ j, j < 99 → j ≠ sk → ∀ k, g j = .ref k → k ∉ ws) : HGs Z h' o bf ev g xs sk := fun j h9 hj => by
  rcases S j h9 hj with S | ⟨k, e, ⟨E, F⟩, r⟩
  · exact Or.inl S
  · exact Or.inr ⟨k, e, ⟨E.keep K, F.keep K (q j h9 hj k e)⟩, r⟩
theorem HGs.lt (S : HGs Z h o bf ev g xs sk) {j : Nat} {k : Addr} (h9 : j < 99) (hj : j ≠ sk) (e : g j = .ref k) : k < h.size ∧ k ≠ o ∧ k ≠ bf ∧ ev ≠ .ref k := by
  rcases S j h9 hj with S | ⟨k', e', ⟨E, F⟩, r⟩
  · rw [S] at e; cases e
  · rw [e] at e'; cases e'; exact ⟨F.lt, r⟩
theorem HGs.rem {i : Nat} (S : HGs Z h o bf ev g xs sk) : HGs Z h o bf ev (upd g i .null) xs sk := fun j h9 hj => by
  by_cases q : j = i
  · subst q; exact Or.inl (upd_same _ _ _)
  · rw [upd_ne q]; exact S j h9 hj
theorem HGs.skip {i : Nat} {k : Addr} {ev' : Value} (S : HGs Z h o bf ev g xs 99) (hv : ∀ kk : Addr, ev ≠ .ref kk → kk < h.size → ev' ≠ .ref kk) : HGs Z h o bf ev' (upd g i (.ref k)) xs i := fun j h9 hj => by
  rw [upd_ne hj]
  rcases S j h9 (by omega) with S | ⟨k', e', ⟨E, F⟩, r1, r2, r3⟩
  · exact Or.inl S
  · exact Or.inr ⟨k', e', ⟨E, F⟩, r1, r2, hv k' r3 F.lt⟩
theorem HGs.fill {i : Nat} {k : Addr} {x : Int64} (S : HGs Z h o bf ev (upd g i (.ref k)) xs i) (hg : HG Z h k x) (r1 : k ≠ o) (r2 : k ≠ bf) (r3 : ev ≠ .ref k) : HGs Z h o bf ev (upd g i (.ref k)) (up xs i x) 99 := fun j h9 hj => by
  by_cases q : j = i
  · subst q; rw [upd_same, up_same]; exact Or.inr ⟨k, rfl, hg, r1, r2, r3⟩
  · rw [up_ne q]; exact S j h9 q
theorem HE.ne {en : Addr} (E : HE Z h n0 o mb bf n g ev) (q : ev = .ref en) : o ≠ en ∧ mb ≠ en ∧ bf ≠ en ∧ en < h.size := by
  rcases E with ⟨e, -⟩ | ⟨en', e1, e2, A, F, r1, r2, r3⟩
  · rw [e] at q; cases q
  · rw [e1] at q; cases q; exact ⟨r1, r2, r3, A.lt⟩
theorem own_lt {n m : Nat} (hn : n < 100000) (hm : m < 100000) : Int32.ofNat n < Int32.ofNat m ↔ n < m := by
  rw [Int32.lt_iff_toInt_lt, own_ofNat (by omega), own_ofNat (by omega)]; omega
theorem own_eq {n m : Nat} (hn : n < 100000) (hm : m < 100000) (q : Int32.ofNat n = Int32.ofNat m) : n = m := by
  have := congrArg Int32.toInt q; rw [own_ofNat (by omega), own_ofNat (by omega)] at this; omega
end K
theorem d11_0 : decode jdk_29_method_65_code 0 = .ok (.iload_n 0, 1) := by decide +kernel
theorem d11_1 : decode jdk_29_method_65_code 1 = .ok (.iload_n 1, 1) := by decide +kernel
theorem d11_2 : decode jdk_29_method_65_code 2 = .ok (.if_icmp .lt 7, 3) := by decide +kernel
theorem d11_5 : decode jdk_29_method_65_code 5 = .ok (.iload_n 0, 1) := by decide +kernel
theorem d11_6 : decode jdk_29_method_65_code 6 = .ok (.goto 4, 3) := by decide +kernel
theorem d11_9 : decode jdk_29_method_65_code 9 = .ok (.iload_n 1, 1) := by decide +kernel
theorem d11_10 : decode jdk_29_method_65_code 10 = .ok (.ireturn, 1) := by decide +kernel
theorem ef_rm11 (m : MethodId) (p1 : Int32) (p2 : Int32) : entryFrame m #[(.int p1), (.int p2)] 2 = mkF m 0 #[.val (.int p1), .val (.int p2)] [] := by first | (simp [entryFrame, mkF, argsToLocals, Value.category]; done) | rfl
set_option maxRecDepth 65536 in
set_option maxHeartbeats 40000000 in
theorem rm11 (l : Launch) (Z : State) (a0 : Array Value) (hw : ∀ d ∈ tables_1, d.before a0 Z = true) (p1 p2 : Int32) (h0 : Heap)  :
    Con l Z (⟨"java/lang/Math", "max", "(II)I"⟩ : MethodName) jdk_29_method_65_code 2 (some .int) [] ({ frames := 0, cells := 0, slots := 0, locals := 0 } : Room) #[(.int p1), (.int p2)] h0 (fun v h L => v = some (.int (if p1 < p2 then p2 else p1)) ∧ h = h0 ∧ L = []) := by
  refine Con.of (by decide +kernel) ?_
  intro p e s m below meth c s₁ hx hby hml hown hnm hret hlk hZ X0 e0
  refine Wp.enter (ef_rm11 m p1 p2) ?_
  refine W.iloadN X0 hx 1 (hb hby d11_0) rfl rfl ?_
  refine W.iloadN X0 hx 2 (hb hby d11_1) rfl rfl ?_
  refine W.icmpLt X0 hx 9 5 (hb hby d11_2) (by decide) (by decide) rfl (fun q => ?_) (fun q => ?_)
  · skip
    refine W.iloadN X0 hx 10 (hb hby d11_9) rfl rfl ?_
    refine W.iret X0 hx hlk hret (hb hby d11_10) (by decide) (by decide) ?_
    exact ⟨by rw [if_pos q], e0, rfl⟩
  · skip
    refine W.iloadN X0 hx 6 (hb hby d11_5) rfl rfl ?_
    refine W.goto X0 hx 10 (hb hby d11_6) (by decide) (by decide) ?_
    refine W.iret X0 hx hlk hret (hb hby d11_10) (by decide) (by decide) ?_
    exact ⟨by rw [if_neg q], e0, rfl⟩
theorem d6_0 : decode jdk_71_method_1_code 0 = .ok (.aload_n 0, 1) := by decide +kernel
theorem d6_1 : decode jdk_71_method_1_code 1 = .ok (.invokespecial 1, 3) := by decide +kernel
theorem d6_4 : decode jdk_71_method_1_code 4 = .ok (.return_, 1) := by decide +kernel
theorem ef_rmAM (m : MethodId) (o : Addr) : entryFrame m #[(.ref o)] 1 = mkF m 0 #[.val (.ref o)] [] := by first | (simp [entryFrame, mkF, argsToLocals, Value.category]; done) | rfl
set_option maxRecDepth 65536 in
set_option maxHeartbeats 40000000 in
theorem rmAM (l : Launch) (Z : State) (a0 : Array Value) (hw : ∀ d ∈ tables_1, d.before a0 Z = true) (o : Addr) (h0 : Heap)  :
    Con l Z (⟨"java/util/AbstractMap", "<init>", "()V"⟩ : MethodName) jdk_71_method_1_code 1 none [] ({ frames := 1, cells := 0, slots := 0, locals := 20 } : Room) #[(.ref o)] h0 (fun v h L => v = none ∧ h = h0 ∧ L = []) := by
  refine Con.of (by decide +kernel) ?_
  intro p e s m below meth c s₁ hx hby hml hown hnm hret hlk hZ X0 e0
  refine Wp.enter (ef_rmAM m o) ?_
  refine W.aloadN X0 hx 1 (hb hby d6_0) rfl rfl rfl ?_
  refine W.initO X0 hx hZ 4 0 hown (hw _ (List.mem_of_getElem? (i := 31) rfl)) (hw _ (List.mem_of_getElem? (i := 10) rfl)) (hw _ (List.mem_of_getElem? (i := 11) rfl)) e0 (by rw [hml]; rfl) (hb hby d6_1) (by decide) rfl (by decide) rfl ?_
  intro T1 X1 e1
  refine W.vret X1 hx hlk hret (hb hby d6_4) (by decide) (by decide) ?_
  exact ⟨rfl, e1, rfl⟩
theorem d9_0 : decode jdk_22_method_1_code 0 = .ok (.aload_n 0, 1) := by decide +kernel
theorem d9_1 : decode jdk_22_method_1_code 1 = .ok (.invokespecial 1, 3) := by decide +kernel
theorem d9_4 : decode jdk_22_method_1_code 4 = .ok (.return_, 1) := by decide +kernel
theorem ef_rmAC (m : MethodId) (o : Addr) : entryFrame m #[(.ref o)] 1 = mkF m 0 #[.val (.ref o)] [] := by first | (simp [entryFrame, mkF, argsToLocals, Value.category]; done) | rfl
set_option maxRecDepth 65536 in
set_option maxHeartbeats 40000000 in
theorem rmAC (l : Launch) (Z : State) (a0 : Array Value) (hw : ∀ d ∈ tables_1, d.before a0 Z = true) (o : Addr) (h0 : Heap)  :
    Con l Z (⟨"java/util/AbstractCollection", "<init>", "()V"⟩ : MethodName) jdk_22_method_1_code 1 none [] ({ frames := 1, cells := 0, slots := 0, locals := 20 } : Room) #[(.ref o)] h0 (fun v h L => v = none ∧ h = h0 ∧ L = []) := by
  refine Con.of (by decide +kernel) ?_
  intro p e s m below meth c s₁ hx hby hml hown hnm hret hlk hZ X0 e0
  refine Wp.enter (ef_rmAC m o) ?_
  refine W.aloadN X0 hx 1 (hb hby d9_0) rfl rfl rfl ?_
  refine W.initO X0 hx hZ 4 0 hown (hw _ (List.mem_of_getElem? (i := 55) rfl)) (hw _ (List.mem_of_getElem? (i := 10) rfl)) (hw _ (List.mem_of_getElem? (i := 11) rfl)) e0 (by rw [hml]; rfl) (hb hby d9_1) (by decide) rfl (by decide) rfl ?_
  intro T1 X1 e1
  refine W.vret X1 hx hlk hret (hb hby d9_4) (by decide) (by decide) ?_
  exact ⟨rfl, e1, rfl⟩
theorem d5_0 : decode jdk_69_method_7_code 0 = .ok (.aload_n 0, 1) := by decide +kernel
theorem d5_1 : decode jdk_69_method_7_code 1 = .ok (.invokespecial 43, 3) := by decide +kernel
theorem d5_4 : decode jdk_69_method_7_code 4 = .ok (.aload_n 0, 1) := by decide +kernel
theorem d5_5 : decode jdk_69_method_7_code 5 = .ok (.ldc 92, 2) := by decide +kernel
theorem d5_7 : decode jdk_69_method_7_code 7 = .ok (.putfield 81, 3) := by decide +kernel
theorem d5_10 : decode jdk_69_method_7_code 10 = .ok (.return_, 1) := by decide +kernel
theorem ef_rmHM (m : MethodId) (o : Addr) : entryFrame m #[(.ref o)] 1 = mkF m 0 #[.val (.ref o)] [] := by first | (simp [entryFrame, mkF, argsToLocals, Value.category]; done) | rfl
set_option maxRecDepth 65536 in
set_option maxHeartbeats 40000000 in
theorem rmHM (l : Launch) (Z : State) (a0 : Array Value) (hw : ∀ d ∈ tables_1, d.before a0 Z = true) (o : Addr) (h0 : Heap) (n0 : Nat) (Z0 : n0 ≤ h0.size) (E : Exa Z h0 o "java/util/HashMap") (F : Fld Z h0 o "java/util/HashMap" "loadFactor" "F" (.float 0)) (ge_o : n0 ≤ o) :
    Con l Z (⟨"java/util/HashMap", "<init>", "()V"⟩ : MethodName) jdk_69_method_7_code 1 none [] ({ frames := 2, cells := 0, slots := 0, locals := 40 } : Room) #[(.ref o)] h0 (fun v h L => v = none ∧ Fr n0 L ∧ Keep h0 h [o]) := by
  refine Con.of (by decide +kernel) ?_
  intro p e s m below meth c s₁ hx hby hml hown hnm hret hlk hZ X0 e0
  refine Wp.enter (ef_rmHM m o) ?_
  have KP : Keep h0 h0 [o] := Keep.refl _ _
  refine W.aloadN X0 hx 1 (hb hby d5_0) rfl rfl rfl ?_
  refine W.callI X0 hx hZ 4 0 o [] rfl hown (hw _ (List.mem_of_getElem? (i := 25) rfl)) (hw _ (List.mem_of_getElem? (i := 26) rfl)) (hw _ (List.mem_of_getElem? (i := 29) rfl)) (hw _ (List.mem_of_getElem? (i := 30) rfl)) (by decide) pd_0 rfl e0 (rmAM l Z a0 hw o h0) (hb hby d5_1) (by rw [hml]; rfl) rfl rfl (by decide) (by decide) (by decide) (by decide) rfl ?_
  rintro v1 T1 L1 X1 ⟨rfl, e1, rfl⟩
  refine W.aloadN X1 hx 5 (hb hby d5_4) rfl rfl rfl ?_
  refine W.ldcF X1 hx hZ 7 hown (hw _ (List.mem_of_getElem? (i := 32) rfl)) (hb hby d5_5) rfl ?_
  refine W.putF X1 hx hZ 10 hown (hw _ (List.mem_of_getElem? (i := 33) rfl)) Via.refl e1 F E (Or.inr ⟨(hw _ (List.mem_of_getElem? (i := 34) rfl)), rfl, hnm⟩) (hw _ (List.mem_of_getElem? (i := 20) rfl)) (ty := .float) (by decide) rfl rfl (hb hby d5_7) rfl ?_
  intro T2 h2 X2 e2 W2 F
  have E := E.wr W2
  have z2 : n0 ≤ h2.size := by rw [W2.size]; exact Z0
  have KP := KP.wr W2 (by first | (refine Or.inl ?_; simp; done) | exact Or.inr gx_o)
  refine W.vret X2 hx hlk hret (hb hby d5_10) (by decide) (by decide) ?_
  rw [e2]
  exact ⟨rfl, (Fr.app (Fr.app (Fr.nil _) (Fr.nil _)) (fr1 ge_o)), KP⟩
theorem d8_0 : decode jdk_39_method_1_code 0 = .ok (.aload_n 0, 1) := by decide +kernel
theorem d8_1 : decode jdk_39_method_1_code 1 = .ok (.invokespecial 1, 3) := by decide +kernel
theorem d8_4 : decode jdk_39_method_1_code 4 = .ok (.aload_n 0, 1) := by decide +kernel
theorem d8_5 : decode jdk_39_method_1_code 5 = .ok (.iconst 0, 1) := by decide +kernel
theorem d8_6 : decode jdk_39_method_1_code 6 = .ok (.putfield 7, 3) := by decide +kernel
theorem d8_9 : decode jdk_39_method_1_code 9 = .ok (.return_, 1) := by decide +kernel
theorem ef_rmAB (m : MethodId) (o : Addr) : entryFrame m #[(.ref o)] 1 = mkF m 0 #[.val (.ref o)] [] := by first | (simp [entryFrame, mkF, argsToLocals, Value.category]; done) | rfl
set_option maxRecDepth 65536 in
set_option maxHeartbeats 40000000 in
theorem rmAB (l : Launch) (Z : State) (a0 : Array Value) (hw : ∀ d ∈ tables_1, d.before a0 Z = true) (o : Addr) (h0 : Heap) (n0 : Nat) (Z0 : n0 ≤ h0.size) (E : Exa Z h0 o "java/util/ArrayList") (F : Fld Z h0 o "java/util/AbstractList" "modCount" "I" (.int 0)) (F2 : Fld Z h0 o "java/util/ArrayList" "elementData" "[Ljava/lang/Object;" .null) (ge_o : n0 ≤ o) :
    Con l Z (⟨"java/util/AbstractList", "<init>", "()V"⟩ : MethodName) jdk_39_method_1_code 1 none [] ({ frames := 2, cells := 0, slots := 0, locals := 40 } : Room) #[(.ref o)] h0 (fun v h L => v = none ∧ Fr n0 L ∧ Keep h0 h [o] ∧ Fld Z h o "java/util/ArrayList" "elementData" "[Ljava/lang/Object;" .null) := by
  refine Con.of (by decide +kernel) ?_
  intro p e s m below meth c s₁ hx hby hml hown hnm hret hlk hZ X0 e0
  refine Wp.enter (ef_rmAB m o) ?_
  have KP : Keep h0 h0 [o] := Keep.refl _ _
  refine W.aloadN X0 hx 1 (hb hby d8_0) rfl rfl rfl ?_
  refine W.callI X0 hx hZ 4 0 o [] rfl hown (hw _ (List.mem_of_getElem? (i := 49) rfl)) (hw _ (List.mem_of_getElem? (i := 50) rfl)) (hw _ (List.mem_of_getElem? (i := 53) rfl)) (hw _ (List.mem_of_getElem? (i := 54) rfl)) (by decide) pd_0 rfl e0 (rmAC l Z a0 hw o h0) (hb hby d8_1) (by rw [hml]; rfl) rfl rfl (by decide) (by decide) (by decide) (by decide) rfl ?_
  rintro v1 T1 L1 X1 ⟨rfl, e1, rfl⟩
  refine W.aloadN X1 hx 5 (hb hby d8_4) rfl rfl rfl ?_
  refine W.iconst X1 hx 6 (0 : Int32) (hb hby d8_5) rfl rfl ?_
  refine W.putF X1 hx hZ 9 hown (hw _ (List.mem_of_getElem? (i := 56) rfl)) Via.refl e1 F E (Or.inl (hw _ (List.mem_of_getElem? (i := 57) rfl))) (hw _ (List.mem_of_getElem? (i := 38) rfl)) (ty := .int) (by decide) rfl rfl (hb hby d8_6) rfl ?_
  intro T2 h2 X2 e2 W2 F
  have E := E.wr W2
  have F2 := Fld.other W2 F2 (Or.inr (slot_ne (Or.inl (hw _ (List.mem_of_getElem? (i := 60) rfl))) (Or.inl (hw _ (List.mem_of_getElem? (i := 57) rfl))) (by decide) (t := (.array (.object "java/lang/Object"))) (t' := .int) (by decide) (by decide)))
  have z2 : n0 ≤ h2.size := by rw [W2.size]; exact Z0
  have KP := KP.wr W2 (by first | (refine Or.inl ?_; simp; done) | exact Or.inr gx_o)
  refine W.vret X2 hx hlk hret (hb hby d8_9) (by decide) (by decide) ?_
  rw [e2]
  exact ⟨rfl, (Fr.app (Fr.app (Fr.nil _) (Fr.nil _)) (fr1 ge_o)), KP, F2⟩
theorem d7_0 : decode jdk_38_method_2_code 0 = .ok (.aload_n 0, 1) := by decide +kernel
theorem d7_1 : decode jdk_38_method_2_code 1 = .ok (.invokespecial 1, 3) := by decide +kernel
theorem d7_4 : decode jdk_38_method_2_code 4 = .ok (.aload_n 0, 1) := by decide +kernel
theorem d7_5 : decode jdk_38_method_2_code 5 = .ok (.getstatic 39, 3) := by decide +kernel
theorem d7_8 : decode jdk_38_method_2_code 8 = .ok (.putfield 9, 3) := by decide +kernel
theorem d7_11 : decode jdk_38_method_2_code 11 = .ok (.return_, 1) := by decide +kernel
theorem ef_rmAL (m : MethodId) (o : Addr) : entryFrame m #[(.ref o)] 1 = mkF m 0 #[.val (.ref o)] [] := by first | (simp [entryFrame, mkF, argsToLocals, Value.category]; done) | rfl
set_option maxRecDepth 65536 in
set_option maxHeartbeats 40000000 in
theorem rmAL (l : Launch) (Z : State) (a0 : Array Value) (hw : ∀ d ∈ tables_1, d.before a0 Z = true) (o dv : Addr) (h0 : Heap) (n0 : Nat) (Z0 : n0 ≤ h0.size) (E : Exa Z h0 o "java/util/ArrayList") (F : Fld Z h0 o "java/util/AbstractList" "modCount" "I" (.int 0)) (F2 : Fld Z h0 o "java/util/ArrayList" "elementData" "[Ljava/lang/Object;" .null) (SD : Sta Z h0 "java/util/ArrayList" "DEFAULTCAPACITY_EMPTY_ELEMENTDATA" "[Ljava/lang/Object;" (.ref dv)) (ge_o : n0 ≤ o) :
    Con l Z (⟨"java/util/ArrayList", "<init>", "()V"⟩ : MethodName) jdk_38_method_2_code 1 none [] ({ frames := 3, cells := 0, slots := 0, locals := 60 } : Room) #[(.ref o)] h0 (fun v h L => v = none ∧ Fr n0 L ∧ Keep h0 h [o]) := by
  refine Con.of (by decide +kernel) ?_
  intro p e s m below meth c s₁ hx hby hml hown hnm hret hlk hZ X0 e0
  refine Wp.enter (ef_rmAL m o) ?_
  refine W.aloadN X0 hx 1 (hb hby d7_0) rfl rfl rfl ?_
  refine W.callI X0 hx hZ 4 0 o [] rfl hown (hw _ (List.mem_of_getElem? (i := 43) rfl)) (hw _ (List.mem_of_getElem? (i := 44) rfl)) (hw _ (List.mem_of_getElem? (i := 47) rfl)) (hw _ (List.mem_of_getElem? (i := 48) rfl)) (by decide) pd_0 rfl e0 (rmAB l Z a0 hw o h0 n0 Z0 E F F2 ge_o) (hb hby d7_1) (by rw [hml]; rfl) rfl rfl (by decide) (by decide) (by decide) (by decide) rfl ?_
  rintro v1 T1 L1 X1 ⟨rfl, N1, K1, F2⟩
  have SD := Sta.keepE SD K1 E
  have E := E.keep K1
  have z1 : n0 ≤ T1.heap.size := Nat.le_trans Z0 K1.1
  have KP : Keep h0 T1.heap [o] := K1
  refine W.aloadN X1 hx 5 (hb hby d7_4) rfl rfl rfl ?_
  refine W.getS X1 hx hZ 8 hown (hw _ (List.mem_of_getElem? (i := 58) rfl)) Via.refl rfl SD (hb hby d7_5) rfl ?_
  intro T2 X2 e2
  refine W.putF X2 hx hZ 11 hown (hw _ (List.mem_of_getElem? (i := 59) rfl)) Via.refl e2 F2 E (Or.inl (hw _ (List.mem_of_getElem? (i := 60) rfl))) (hw _ (List.mem_of_getElem? (i := 38) rfl)) (ty := (.array (.object "java/lang/Object"))) (by decide) rfl rfl (hb hby d7_8) rfl ?_
  intro T3 h3 X3 e3 W3 F2
  have SD := SD.wr W3
  have E := E.wr W3
  have z3 : n0 ≤ h3.size := by rw [W3.size]; exact z1
  have KP := KP.wr W3 (by first | (refine Or.inl ?_; simp; done) | exact Or.inr gx_o)
  refine W.vret X3 hx hlk hret (hb hby d7_11) (by decide) (by decide) ?_
  rw [e3]
  exact ⟨rfl, (Fr.app (Fr.app (Fr.nil _) N1) (fr1 ge_o)), KP⟩
theorem d4_0 : decode prog_83_method_1_code 0 = .ok (.aload_n 0, 1) := by decide +kernel
theorem d4_1 : decode prog_83_method_1_code 1 = .ok (.invokespecial 1, 3) := by decide +kernel
theorem d4_4 : decode prog_83_method_1_code 4 = .ok (.aload_n 0, 1) := by decide +kernel
theorem d4_5 : decode prog_83_method_1_code 5 = .ok (.new 7, 3) := by decide +kernel
theorem d4_8 : decode prog_83_method_1_code 8 = .ok (.dup, 1) := by decide +kernel
theorem d4_9 : decode prog_83_method_1_code 9 = .ok (.invokespecial 9, 3) := by decide +kernel
theorem d4_12 : decode prog_83_method_1_code 12 = .ok (.putfield 10, 3) := by decide +kernel
theorem d4_15 : decode prog_83_method_1_code 15 = .ok (.aload_n 0, 1) := by decide +kernel
theorem d4_16 : decode prog_83_method_1_code 16 = .ok (.new 16, 3) := by decide +kernel
theorem d4_19 : decode prog_83_method_1_code 19 = .ok (.dup, 1) := by decide +kernel
theorem d4_20 : decode prog_83_method_1_code 20 = .ok (.invokespecial 18, 3) := by decide +kernel
theorem d4_23 : decode prog_83_method_1_code 23 = .ok (.putfield 19, 3) := by decide +kernel
theorem d4_26 : decode prog_83_method_1_code 26 = .ok (.return_, 1) := by decide +kernel
theorem pn_4 : plainName "com/example/margrave/margrave/engine/Holdings$Numbering" = true := by first | (simp [plainName, overriddenIn]; done) | decide +kernel
theorem ef_rmNB (m : MethodId) (o : Addr) : entryFrame m #[(.ref o)] 1 = mkF m 0 #[.val (.ref o)] [] := by first | (simp [entryFrame, mkF, argsToLocals, Value.category]; done) | rfl
set_option maxRecDepth 65536 in
set_option maxHeartbeats 40000000 in
theorem rmNB (l : Launch) (Z : State) (a0 : Array Value) (hw : ∀ d ∈ tables_1, d.before a0 Z = true) (o dv : Addr) (h0 : Heap) (n0 : Nat) (Z0 : n0 ≤ h0.size) (E : Exa Z h0 o "com/example/margrave/margrave/engine/Holdings$Numbering") (F1 : Fld Z h0 o "com/example/margrave/margrave/engine/Holdings$Numbering" "numbers" "Ljava/util/Map;" .null) (F2 : Fld Z h0 o "com/example/margrave/margrave/engine/Holdings$Numbering" "ids" "Ljava/util/List;" .null) (SD : Sta Z h0 "java/util/ArrayList" "DEFAULTCAPACITY_EMPTY_ELEMENTDATA" "[Ljava/lang/Object;" (.ref dv)) (ge_o : n0 ≤ o) :
    Con l Z (⟨"com/example/margrave/margrave/engine/Holdings$Numbering", "<init>", "()V"⟩ : MethodName) prog_83_method_1_code 1 none [] ({ frames := 4, cells := 2, slots := 11, locals := 80 } : Room) #[(.ref o)] h0 (fun v h L => v = none ∧ Fr n0 L ∧ Keep h0 h [o]) := by
  refine Con.of (plainFor_of_name pn_4) ?_
  intro p e s m below meth c s₁ hx hby hml hown hnm hret hlk hZ X0 e0
  refine Wp.enter (ef_rmNB m o) ?_
  have KP : Keep h0 h0 [o] := Keep.refl _ _
  refine W.aloadN X0 hx 1 (hb hby d4_0) rfl rfl rfl ?_
  refine W.initO X0 hx hZ 4 0 hown (hw _ (List.mem_of_getElem? (i := 18) rfl)) (hw _ (List.mem_of_getElem? (i := 10) rfl)) (hw _ (List.mem_of_getElem? (i := 11) rfl)) e0 (by rw [hml]; rfl) (hb hby d4_1) (by decide) rfl (by decide) rfl ?_
  intro T1 X1 e1
  refine W.aloadN X1 hx 5 (hb hby d4_4) rfl rfl rfl ?_
  refine W.newO X1 hx hZ 8 hown (hw _ (List.mem_of_getElem? (i := 19) rfl)) (hw _ (List.mem_of_getElem? (i := 20) rfl)) (hw _ (List.mem_of_getElem? (i := 21) rfl)) e1 (hb hby d4_5) (by decide) (by decide) rfl ?_
  intro T2 h2 hm q2 X2 e2 E2 EM DM
  have ne_o_hm : o ≠ hm := fun q => by have := E.lt; rw [q, q2] at this; exact Nat.lt_irrefl _ this
  have ge_hm : n0 ≤ hm := by have := Z0; omega
  have gx_hm : h0.size ≤ hm := by have := KP.1; omega
  have E := E.ext E2
  have F1 := F1.ext E2
  have F2 := F2.ext E2
  have SD := SD.ext E2
  have z2 : n0 ≤ h2.size := Nat.le_trans Z0 E2.1
  have KP := KP.ext E2
  have M1 := DM (Or.inr (hw _ (List.mem_of_getElem? (i := 34) rfl))) (ty := .float) (by decide)
  refine W.dup X2 hx 9 (hb hby d4_8) rfl rfl ?_
  have EM0 := EM
  refine W.callI X2 hx hZ 12 2 hm [] rfl hown (hw _ (List.mem_of_getElem? (i := 22) rfl)) (hw _ (List.mem_of_getElem? (i := 23) rfl)) (hw _ (List.mem_of_getElem? (i := 21) rfl)) (hw _ (List.mem_of_getElem? (i := 24) rfl)) (by decide) pd_0 rfl e2 (rmHM l Z a0 hw hm h2 n0 z2 EM M1 ge_hm) (hb hby d4_9) (by rw [hml]; rfl) rfl rfl (by decide) (by decide) (by decide) (by decide) rfl ?_
  rintro v3 T3 L3 X3 ⟨rfl, N3, K3⟩
  have SD := Sta.keepE SD K3 EM0
  have E := E.keep K3
  have F1 := F1.keep K3 (ninS ne_o_hm nin0)
  have F2 := F2.keep K3 (ninS ne_o_hm nin0)
  have z3 : n0 ≤ T3.heap.size := Nat.le_trans z2 K3.1
  have KP := KP.trans K3 (allS (Or.inr gx_hm) all0)
  refine W.putF X3 hx hZ 15 hown (hw _ (List.mem_of_getElem? (i := 35) rfl)) Via.refl rfl F1 E (Or.inr ⟨(hw _ (List.mem_of_getElem? (i := 36) rfl)), rfl, hnm⟩) (hw _ (List.mem_of_getElem? (i := 13) rfl)) (ty := (.object "java/util/Map")) (by decide) rfl rfl (hb hby d4_12) rfl ?_
  intro T4 h4 X4 e4 W4 F1
  have E := E.wr W4
  have F2 := Fld.other W4 F2 (Or.inr (slot_ne (Or.inr (hw _ (List.mem_of_getElem? (i := 62) rfl))) (Or.inr (hw _ (List.mem_of_getElem? (i := 36) rfl))) (by decide) (t := (.object "java/util/List")) (t' := (.object "java/util/Map")) (by decide) (by decide)))
  have SD := SD.wr W4
  have z4 : n0 ≤ h4.size := by rw [W4.size]; exact z3
  have KP := KP.wr W4 (by first | (refine Or.inl ?_; simp; done) | exact Or.inr gx_o)
  refine W.aloadN X4 hx 16 (hb hby d4_15) rfl rfl rfl ?_
  refine W.newO X4 hx hZ 19 hown (hw _ (List.mem_of_getElem? (i := 37) rfl)) (hw _ (List.mem_of_getElem? (i := 38) rfl)) (hw _ (List.mem_of_getElem? (i := 39) rfl)) e4 (hb hby d4_16) (by decide) (by decide) rfl ?_
  intro T5 h5 al q5 X5 e5 E5 EL DL
  have ne_o_al : o ≠ al := fun q => by have := E.lt; rw [q, q5] at this; exact Nat.lt_irrefl _ this
  have ge_al : n0 ≤ al := by have := z4; omega
  have gx_al : h0.size ≤ al := by have := KP.1; omega
  have E := E.ext E5
  have F1 := F1.ext E5
  have F2 := F2.ext E5
  have SD := SD.ext E5
  have z5 : n0 ≤ h5.size := Nat.le_trans z4 E5.1
  have KP := KP.ext E5
  have L1 := DL (Or.inl (hw _ (List.mem_of_getElem? (i := 57) rfl))) (ty := .int) (by decide)
  have L2 := DL (Or.inl (hw _ (List.mem_of_getElem? (i := 60) rfl))) (ty := (.array (.object "java/lang/Object"))) (by decide)
  refine W.dup X5 hx 20 (hb hby d4_19) rfl rfl ?_
  have EL0 := EL
  refine W.callI X5 hx hZ 23 2 al [] rfl hown (hw _ (List.mem_of_getElem? (i := 40) rfl)) (hw _ (List.mem_of_getElem? (i := 41) rfl)) (hw _ (List.mem_of_getElem? (i := 39) rfl)) (hw _ (List.mem_of_getElem? (i := 42) rfl)) (by decide) pd_0 rfl e5 (rmAL l Z a0 hw al dv h5 n0 z5 EL L1 L2 SD ge_al) (hb hby d4_20) (by rw [hml]; rfl) rfl rfl (by decide) (by decide) (by decide) (by decide) rfl ?_
  rintro v6 T6 L6 X6 ⟨rfl, N6, K6⟩
  have SD := Sta.keepE SD K6 EL0
  have E := E.keep K6
  have F1 := F1.keep K6 (ninS ne_o_al nin0)
  have F2 := F2.keep K6 (ninS ne_o_al nin0)
  have z6 : n0 ≤ T6.heap.size := Nat.le_trans z5 K6.1
  have KP := KP.trans K6 (allS (Or.inr gx_al) all0)
  refine W.putF X6 hx hZ 26 hown (hw _ (List.mem_of_getElem? (i := 61) rfl)) Via.refl rfl F2 E (Or.inr ⟨(hw _ (List.mem_of_getElem? (i := 62) rfl)), rfl, hnm⟩) (hw _ (List.mem_of_getElem? (i := 13) rfl)) (ty := (.object "java/util/List")) (by decide) rfl rfl (hb hby d4_23) rfl ?_
  intro T7 h7 X7 e7 W7 F2
  have E := E.wr W7
  have F1 := Fld.other W7 F1 (Or.inr (slot_ne (Or.inr (hw _ (List.mem_of_getElem? (i := 36) rfl))) (Or.inr (hw _ (List.mem_of_getElem? (i := 62) rfl))) (by decide) (t := (.object "java/util/Map")) (t' := (.object "java/util/List")) (by decide) (by decide)))
  have SD := SD.wr W7
  have z7 : n0 ≤ h7.size := by rw [W7.size]; exact z6
  have KP := KP.wr W7 (by first | (refine Or.inl ?_; simp; done) | exact Or.inr gx_o)
  refine W.vret X7 hx hlk hret (hb hby d4_26) (by decide) (by decide) ?_
  rw [e7]
  exact ⟨rfl, (Fr.app (Fr.app (Fr.app (Fr.app (Fr.nil _) N3) (fr1 ge_o)) N6) (fr1 ge_o)), KP⟩
theorem d10_0 : decode prog_82_method_50_code 0 = .ok (.iload_n 1, 1) := by decide +kernel
theorem d10_1 : decode prog_82_method_50_code 1 = .ok (.bipush 16, 2) := by decide +kernel
theorem d10_3 : decode prog_82_method_50_code 3 = .ok (.invokestatic 367, 3) := by decide +kernel
theorem d10_6 : decode prog_82_method_50_code 6 = .ok (.istore_n 2, 1) := by decide +kernel
theorem d10_7 : decode prog_82_method_50_code 7 = .ok (.aload_n 0, 1) := by decide +kernel
theorem d10_8 : decode prog_82_method_50_code 8 = .ok (.iload_n 2, 1) := by decide +kernel
theorem d10_9 : decode prog_82_method_50_code 9 = .ok (.newarray .int, 2) := by decide +kernel
theorem d10_11 : decode prog_82_method_50_code 11 = .ok (.putfield 149, 3) := by decide +kernel
theorem d10_14 : decode prog_82_method_50_code 14 = .ok (.aload_n 0, 1) := by decide +kernel
theorem d10_15 : decode prog_82_method_50_code 15 = .ok (.iload_n 2, 1) := by decide +kernel
theorem d10_16 : decode prog_82_method_50_code 16 = .ok (.newarray .int, 2) := by decide +kernel
theorem d10_18 : decode prog_82_method_50_code 18 = .ok (.putfield 303, 3) := by decide +kernel
theorem d10_21 : decode prog_82_method_50_code 21 = .ok (.aload_n 0, 1) := by decide +kernel
theorem d10_22 : decode prog_82_method_50_code 22 = .ok (.iload_n 2, 1) := by decide +kernel
theorem d10_23 : decode prog_82_method_50_code 23 = .ok (.newarray .int, 2) := by decide +kernel
theorem d10_25 : decode prog_82_method_50_code 25 = .ok (.putfield 306, 3) := by decide +kernel
theorem d10_28 : decode prog_82_method_50_code 28 = .ok (.aload_n 0, 1) := by decide +kernel
theorem d10_29 : decode prog_82_method_50_code 29 = .ok (.iload_n 2, 1) := by decide +kernel
theorem d10_30 : decode prog_82_method_50_code 30 = .ok (.newarray .byte, 2) := by decide +kernel
theorem d10_32 : decode prog_82_method_50_code 32 = .ok (.putfield 326, 3) := by decide +kernel
theorem d10_35 : decode prog_82_method_50_code 35 = .ok (.aload_n 0, 1) := by decide +kernel
theorem d10_36 : decode prog_82_method_50_code 36 = .ok (.iload_n 2, 1) := by decide +kernel
theorem d10_37 : decode prog_82_method_50_code 37 = .ok (.newarray .byte, 2) := by decide +kernel
theorem d10_39 : decode prog_82_method_50_code 39 = .ok (.putfield 333, 3) := by decide +kernel
theorem d10_42 : decode prog_82_method_50_code 42 = .ok (.aload_n 0, 1) := by decide +kernel
theorem d10_43 : decode prog_82_method_50_code 43 = .ok (.iload_n 2, 1) := by decide +kernel
theorem d10_44 : decode prog_82_method_50_code 44 = .ok (.newarray .long, 2) := by decide +kernel
theorem d10_46 : decode prog_82_method_50_code 46 = .ok (.putfield 96, 3) := by decide +kernel
theorem d10_49 : decode prog_82_method_50_code 49 = .ok (.aload_n 0, 1) := by decide +kernel
theorem d10_50 : decode prog_82_method_50_code 50 = .ok (.aconst_null, 1) := by decide +kernel
theorem d10_51 : decode prog_82_method_50_code 51 = .ok (.putfield 199, 3) := by decide +kernel
theorem d10_54 : decode prog_82_method_50_code 54 = .ok (.aload_n 0, 1) := by decide +kernel
theorem d10_55 : decode prog_82_method_50_code 55 = .ok (.aconst_null, 1) := by decide +kernel
theorem d10_56 : decode prog_82_method_50_code 56 = .ok (.putfield 146, 3) := by decide +kernel
theorem d10_59 : decode prog_82_method_50_code 59 = .ok (.aload_n 0, 1) := by decide +kernel
theorem d10_60 : decode prog_82_method_50_code 60 = .ok (.aconst_null, 1) := by decide +kernel
theorem d10_61 : decode prog_82_method_50_code 61 = .ok (.putfield 166, 3) := by decide +kernel
theorem d10_64 : decode prog_82_method_50_code 64 = .ok (.aload_n 0, 1) := by decide +kernel
theorem d10_65 : decode prog_82_method_50_code 65 = .ok (.aconst_null, 1) := by decide +kernel
theorem d10_66 : decode prog_82_method_50_code 66 = .ok (.putfield 64, 3) := by decide +kernel
theorem d10_69 : decode prog_82_method_50_code 69 = .ok (.return_, 1) := by decide +kernel
theorem pn_10 : plainName "com/example/margrave/margrave/engine/Holdings" = true := by first | (simp [plainName, overriddenIn]; done) | decide +kernel
theorem ef_rmMR (m : MethodId) (o : Addr) (ex : Nat) : entryFrame m #[(.ref o), (.int (Int32.ofNat ex))] 3 = mkF m 0 #[.val (.ref o), .val (.int (Int32.ofNat ex)), .unset] [] := by first | (simp [entryFrame, mkF, argsToLocals, Value.category]; done) | rfl
set_option maxRecDepth 65536 in
set_option maxHeartbeats 40000000 in
theorem rmMR (l : Launch) (Z : State) (a0 : Array Value) (hw : ∀ d ∈ tables_1, d.before a0 Z = true) (o : Addr) (ex n : Nat) (h0 : Heap) (n0 : Nat) (Z0 : n0 ≤ h0.size) (E : Exa Z h0 o "com/example/margrave/margrave/engine/Holdings") (f_m : Fld Z h0 o "com/example/margrave/margrave/engine/Holdings" "member" "[I" .null) (f_cl : Fld Z h0 o "com/example/margrave/margrave/engine/Holdings" "client" "[I" .null) (f_co : Fld Z h0 o "com/example/margrave/margrave/engine/Holdings" "contract" "[I" .null) (f_si : Fld Z h0 o "com/example/margrave/margrave/engine/Holdings" "side" "[B" .null) (f_pu : Fld Z h0 o "com/example/margrave/margrave/engine/Holdings" "purpose" "[B" .null) (f_be : Fld Z h0 o "com/example/margrave/margrave/engine/Holdings" "before" "[J" .null) (f_en : Fld Z h0 o "com/example/margrave/margrave/engine/Holdings" "entries" "[Lcom/example/margrave/margrave/engine/Holding;" .null) (f_fe : Fld Z h0 o "com/example/margrave/margrave/engine/Holdings" "fees" "[J" .null) (f_fp : Fld Z h0 o "com/example/margrave/margrave/engine/Holdings" "feesPast" "[Ljava/math/BigDecimal;" .null) (f_ix : Fld Z h0 o "com/example/margrave/margrave/engine/Holdings" "index" "Lcom/example/margrave/margrave/engine/HashIndex;" .null) (f_g : Fld Z h0 o "com/example/margrave/margrave/engine/Holdings" "groups" "Lcom/example/margrave/margrave/engine/LotGroups;" .null) (hn : n = if ex < 16 then 16 else ex) (hex : ex ≤ 31) (ge_o : n0 ≤ o) :
    Con l Z (⟨"com/example/margrave/margrave/engine/Holdings", "makeRoom", "(I)V"⟩ : MethodName) prog_82_method_50_code 3 none [] ({ frames := 1, cells := 6, slots := 186, locals := 20 } : Room) #[(.ref o), (.int (Int32.ofNat ex))] h0 (fun v h L => v = none ∧ Fr n0 L ∧ Keep h0 h [o] ∧ ∃ mb bf : Addr, HO Z h n0 o mb bf n (fun _ => 0) .null) := by
  refine Con.of (plainFor_of_name pn_10) ?_
  intro p e s m below meth c s₁ hx hby hml hown hnm hret hlk hZ X0 e0
  refine Wp.enter (ef_rmMR m o ex) ?_
  have KP : Keep h0 h0 [o] := Keep.refl _ _
  have n2 : n ≤ 31 := by split at hn <;> omega
  have em : (if Int32.ofNat ex < (16 : Int32) then (16 : Int32) else Int32.ofNat ex) = Int32.ofNat n := by
    have t : (16 : Int32) = Int32.ofNat 16 := rfl
    rw [t]
    by_cases qq : ex < 16
    · rw [if_pos ((own_lt (by omega) (by omega)).mpr qq), hn, if_pos qq]
    · rw [if_neg (fun z => qq ((own_lt (by omega) (by omega)).mp z)), hn, if_neg qq]
  refine W.iloadN X0 hx 1 (hb hby d10_0) rfl rfl ?_
  refine W.bipush X0 hx 3 (16 : Int32) (hb hby d10_1) rfl rfl ?_
  refine W.callS X0 hx hZ 6 0 [(.int (Int32.ofNat ex)), (.int (16 : Int32))] hown (hw _ (List.mem_of_getElem? (i := 81) rfl)) (hw _ (List.mem_of_getElem? (i := 82) rfl)) (hw _ (List.mem_of_getElem? (i := 83) rfl)) (hw _ (List.mem_of_getElem? (i := 84) rfl)) (by decide) pd_1 rfl e0 (rm11 l Z a0 hw (Int32.ofNat ex) (16 : Int32) h0) (hb hby d10_3) (by rw [hml]; rfl) rfl rfl (by decide) (by decide) (by decide) (by decide) rfl ?_
  rintro v1 T1 L1 X1 ⟨rfl, e1, rfl⟩
  rw [em]
  refine W.istoreN X1 hx 7 #[.val (.ref o), .val (.int (Int32.ofNat ex)), .val (.int (Int32.ofNat n))] (hb hby d10_6) rfl rfl ?_
  refine W.aloadN X1 hx 8 (hb hby d10_7) rfl rfl rfl ?_
  refine W.iloadN X1 hx 9 (hb hby d10_8) rfl rfl ?_
  refine W.newarr X1 hx hZ 11 n 31 (hw _ (List.mem_of_getElem? (i := 85) rfl)) e1 (hb hby d10_9) (own_ofNat (by omega)) n2 (by decide) (by decide) (by decide) rfl ?_
  intro T2 h2 mb q2 X2 e2 E2 A1
  have ne_o_mb : o ≠ mb := fun q => by have := E.lt; rw [q, q2] at this; exact Nat.lt_irrefl _ this
  have ge_mb : n0 ≤ mb := by have := Z0; omega
  have gx_mb : h0.size ≤ mb := by have := KP.1; omega
  have E := E.ext E2
  have f_m := f_m.ext E2
  have f_cl := f_cl.ext E2
  have f_co := f_co.ext E2
  have f_si := f_si.ext E2
  have f_pu := f_pu.ext E2
  have f_be := f_be.ext E2
  have f_en := f_en.ext E2
  have f_fe := f_fe.ext E2
  have f_fp := f_fp.ext E2
  have f_ix := f_ix.ext E2
  have f_g := f_g.ext E2
  have z2 : n0 ≤ h2.size := Nat.le_trans Z0 E2.1
  have KP := KP.ext E2
  refine W.putF X2 hx hZ 14 hown (hw _ (List.mem_of_getElem? (i := 86) rfl)) Via.refl e2 f_m E (Or.inl (hw _ (List.mem_of_getElem? (i := 87) rfl))) (hw _ (List.mem_of_getElem? (i := 1) rfl)) (ty := (.array .int)) (by decide) rfl rfl (hb hby d10_11) rfl ?_
  intro T3 h3 X3 e3 W3 f_m
  have E := E.wr W3
  have f_cl := Fld.other W3 f_cl (Or.inr (slot_ne (Or.inl (hw _ (List.mem_of_getElem? (i := 89) rfl))) (Or.inl (hw _ (List.mem_of_getElem? (i := 87) rfl))) (by decide) (t := (.array .int)) (t' := (.array .int)) (by decide) (by decide)))
  have f_co := Fld.other W3 f_co (Or.inr (slot_ne (Or.inl (hw _ (List.mem_of_getElem? (i := 91) rfl))) (Or.inl (hw _ (List.mem_of_getElem? (i := 87) rfl))) (by decide) (t := (.array .int)) (t' := (.array .int)) (by decide) (by decide)))
  have f_si := Fld.other W3 f_si (Or.inr (slot_ne (Or.inl (hw _ (List.mem_of_getElem? (i := 94) rfl))) (Or.inl (hw _ (List.mem_of_getElem? (i := 87) rfl))) (by decide) (t := (.array .byte)) (t' := (.array .int)) (by decide) (by decide)))
  have f_pu := Fld.other W3 f_pu (Or.inr (slot_ne (Or.inl (hw _ (List.mem_of_getElem? (i := 96) rfl))) (Or.inl (hw _ (List.mem_of_getElem? (i := 87) rfl))) (by decide) (t := (.array .byte)) (t' := (.array .int)) (by decide) (by decide)))
  have f_be := Fld.other W3 f_be (Or.inr (slot_ne (Or.inl (hw _ (List.mem_of_getElem? (i := 99) rfl))) (Or.inl (hw _ (List.mem_of_getElem? (i := 87) rfl))) (by decide) (t := (.array .long)) (t' := (.array .int)) (by decide) (by decide)))
  have f_en := Fld.other W3 f_en (Or.inr (slot_ne (Or.inl (hw _ (List.mem_of_getElem? (i := 101) rfl))) (Or.inl (hw _ (List.mem_of_getElem? (i := 87) rfl))) (by decide) (t := (.array (.object "com/example/margrave/margrave/engine/Holding"))) (t' := (.array .int)) (by decide) (by decide)))
  have f_fe := Fld.other W3 f_fe (Or.inr (slot_ne (Or.inl (hw _ (List.mem_of_getElem? (i := 103) rfl))) (Or.inl (hw _ (List.mem_of_getElem? (i := 87) rfl))) (by decide) (t := (.array .long)) (t' := (.array .int)) (by decide) (by decide)))
  have f_fp := Fld.other W3 f_fp (Or.inr (slot_ne (Or.inl (hw _ (List.mem_of_getElem? (i := 105) rfl))) (Or.inl (hw _ (List.mem_of_getElem? (i := 87) rfl))) (by decide) (t := (.array (.object "java/math/BigDecimal"))) (t' := (.array .int)) (by decide) (by decide)))
  have f_ix := Fld.other W3 f_ix (Or.inr (slot_ne (Or.inl (hw _ (List.mem_of_getElem? (i := 107) rfl))) (Or.inl (hw _ (List.mem_of_getElem? (i := 87) rfl))) (by decide) (t := (.object "com/example/margrave/margrave/engine/HashIndex")) (t' := (.array .int)) (by decide) (by decide)))
  have f_g := Fld.other W3 f_g (Or.inr (slot_ne (Or.inl (hw _ (List.mem_of_getElem? (i := 74) rfl))) (Or.inl (hw _ (List.mem_of_getElem? (i := 87) rfl))) (by decide) (t := (.object "com/example/margrave/margrave/engine/LotGroups")) (t' := (.array .int)) (by decide) (by decide)))
  have A1 := A1.other W3 ne_o_mb.symm
  have z3 : n0 ≤ h3.size := by rw [W3.size]; exact z2
  have KP := KP.wr W3 (by first | (refine Or.inl ?_; simp; done) | exact Or.inr gx_o)
  refine W.aloadN X3 hx 15 (hb hby d10_14) rfl rfl rfl ?_
  refine W.iloadN X3 hx 16 (hb hby d10_15) rfl rfl ?_
  refine W.newarr X3 hx hZ 18 n 31 (hw _ (List.mem_of_getElem? (i := 85) rfl)) e3 (hb hby d10_16) (own_ofNat (by omega)) n2 (by decide) (by decide) (by decide) rfl ?_
  intro T4 h4 a4 q4 X4 e4 E4 A2
  have ne_o_a4 : o ≠ a4 := fun q => by have := E.lt; rw [q, q4] at this; exact Nat.lt_irrefl _ this
  have ne_mb_a4 : mb ≠ a4 := fun q => by have := A1.lt; rw [q, q4] at this; exact Nat.lt_irrefl _ this
  have ge_a4 : n0 ≤ a4 := by have := z3; omega
  have gx_a4 : h0.size ≤ a4 := by have := KP.1; omega
  have E := E.ext E4
  have f_m := f_m.ext E4
  have f_cl := f_cl.ext E4
  have f_co := f_co.ext E4
  have f_si := f_si.ext E4
  have f_pu := f_pu.ext E4
  have f_be := f_be.ext E4
  have f_en := f_en.ext E4
  have f_fe := f_fe.ext E4
  have f_fp := f_fp.ext E4
  have f_ix := f_ix.ext E4
  have f_g := f_g.ext E4
  have A1 := A1.ext E4
  have z4 : n0 ≤ h4.size := Nat.le_trans z3 E4.1
  have KP := KP.ext E4
  refine W.putF X4 hx hZ 21 hown (hw _ (List.mem_of_getElem? (i := 88) rfl)) Via.refl e4 f_cl E (Or.inl (hw _ (List.mem_of_getElem? (i := 89) rfl))) (hw _ (List.mem_of_getElem? (i := 1) rfl)) (ty := (.array .int)) (by decide) rfl rfl (hb hby d10_18) rfl ?_
  intro T5 h5 X5 e5 W5 f_cl
  have E := E.wr W5
  have f_m := Fld.other W5 f_m (Or.inr (slot_ne (Or.inl (hw _ (List.mem_of_getElem? (i := 87) rfl))) (Or.inl (hw _ (List.mem_of_getElem? (i := 89) rfl))) (by decide) (t := (.array .int)) (t' := (.array .int)) (by decide) (by decide)))
  have f_co := Fld.other W5 f_co (Or.inr (slot_ne (Or.inl (hw _ (List.mem_of_getElem? (i := 91) rfl))) (Or.inl (hw _ (List.mem_of_getElem? (i := 89) rfl))) (by decide) (t := (.array .int)) (t' := (.array .int)) (by decide) (by decide)))
  have f_si := Fld.other W5 f_si (Or.inr (slot_ne (Or.inl (hw _ (List.mem_of_getElem? (i := 94) rfl))) (Or.inl (hw _ (List.mem_of_getElem? (i := 89) rfl))) (by decide) (t := (.array .byte)) (t' := (.array .int)) (by decide) (by decide)))
  have f_pu := Fld.other W5 f_pu (Or.inr (slot_ne (Or.inl (hw _ (List.mem_of_getElem? (i := 96) rfl))) (Or.inl (hw _ (List.mem_of_getElem? (i := 89) rfl))) (by decide) (t := (.array .byte)) (t' := (.array .int)) (by decide) (by decide)))
  have f_be := Fld.other W5 f_be (Or.inr (slot_ne (Or.inl (hw _ (List.mem_of_getElem? (i := 99) rfl))) (Or.inl (hw _ (List.mem_of_getElem? (i := 89) rfl))) (by decide) (t := (.array .long)) (t' := (.array .int)) (by decide) (by decide)))
  have f_en := Fld.other W5 f_en (Or.inr (slot_ne (Or.inl (hw _ (List.mem_of_getElem? (i := 101) rfl))) (Or.inl (hw _ (List.mem_of_getElem? (i := 89) rfl))) (by decide) (t := (.array (.object "com/example/margrave/margrave/engine/Holding"))) (t' := (.array .int)) (by decide) (by decide)))
  have f_fe := Fld.other W5 f_fe (Or.inr (slot_ne (Or.inl (hw _ (List.mem_of_getElem? (i := 103) rfl))) (Or.inl (hw _ (List.mem_of_getElem? (i := 89) rfl))) (by decide) (t := (.array .long)) (t' := (.array .int)) (by decide) (by decide)))
  have f_fp := Fld.other W5 f_fp (Or.inr (slot_ne (Or.inl (hw _ (List.mem_of_getElem? (i := 105) rfl))) (Or.inl (hw _ (List.mem_of_getElem? (i := 89) rfl))) (by decide) (t := (.array (.object "java/math/BigDecimal"))) (t' := (.array .int)) (by decide) (by decide)))
  have f_ix := Fld.other W5 f_ix (Or.inr (slot_ne (Or.inl (hw _ (List.mem_of_getElem? (i := 107) rfl))) (Or.inl (hw _ (List.mem_of_getElem? (i := 89) rfl))) (by decide) (t := (.object "com/example/margrave/margrave/engine/HashIndex")) (t' := (.array .int)) (by decide) (by decide)))
  have f_g := Fld.other W5 f_g (Or.inr (slot_ne (Or.inl (hw _ (List.mem_of_getElem? (i := 74) rfl))) (Or.inl (hw _ (List.mem_of_getElem? (i := 89) rfl))) (by decide) (t := (.object "com/example/margrave/margrave/engine/LotGroups")) (t' := (.array .int)) (by decide) (by decide)))
  have A1 := A1.other W5 ne_o_mb.symm
  have z5 : n0 ≤ h5.size := by rw [W5.size]; exact z4
  have KP := KP.wr W5 (by first | (refine Or.inl ?_; simp; done) | exact Or.inr gx_o)
  refine W.aloadN X5 hx 22 (hb hby d10_21) rfl rfl rfl ?_
  refine W.iloadN X5 hx 23 (hb hby d10_22) rfl rfl ?_
  refine W.newarr X5 hx hZ 25 n 31 (hw _ (List.mem_of_getElem? (i := 85) rfl)) e5 (hb hby d10_23) (own_ofNat (by omega)) n2 (by decide) (by decide) (by decide) rfl ?_
  intro T6 h6 a6 q6 X6 e6 E6 A3
  have ne_o_a6 : o ≠ a6 := fun q => by have := E.lt; rw [q, q6] at this; exact Nat.lt_irrefl _ this
  have ne_mb_a6 : mb ≠ a6 := fun q => by have := A1.lt; rw [q, q6] at this; exact Nat.lt_irrefl _ this
  have ge_a6 : n0 ≤ a6 := by have := z5; omega
  have gx_a6 : h0.size ≤ a6 := by have := KP.1; omega
  have E := E.ext E6
  have f_m := f_m.ext E6
  have f_co := f_co.ext E6
  have f_si := f_si.ext E6
  have f_pu := f_pu.ext E6
  have f_be := f_be.ext E6
  have f_en := f_en.ext E6
  have f_fe := f_fe.ext E6
  have f_fp := f_fp.ext E6
  have f_ix := f_ix.ext E6
  have f_g := f_g.ext E6
  have A1 := A1.ext E6
  have z6 : n0 ≤ h6.size := Nat.le_trans z5 E6.1
  have KP := KP.ext E6
  refine W.putF X6 hx hZ 28 hown (hw _ (List.mem_of_getElem? (i := 90) rfl)) Via.refl e6 f_co E (Or.inl (hw _ (List.mem_of_getElem? (i := 91) rfl))) (hw _ (List.mem_of_getElem? (i := 1) rfl)) (ty := (.array .int)) (by decide) rfl rfl (hb hby d10_25) rfl ?_
  intro T7 h7 X7 e7 W7 f_co
  have E := E.wr W7
  have f_m := Fld.other W7 f_m (Or.inr (slot_ne (Or.inl (hw _ (List.mem_of_getElem? (i := 87) rfl))) (Or.inl (hw _ (List.mem_of_getElem? (i := 91) rfl))) (by decide) (t := (.array .int)) (t' := (.array .int)) (by decide) (by decide)))
  have f_si := Fld.other W7 f_si (Or.inr (slot_ne (Or.inl (hw _ (List.mem_of_getElem? (i := 94) rfl))) (Or.inl (hw _ (List.mem_of_getElem? (i := 91) rfl))) (by decide) (t := (.array .byte)) (t' := (.array .int)) (by decide) (by decide)))
  have f_pu := Fld.other W7 f_pu (Or.inr (slot_ne (Or.inl (hw _ (List.mem_of_getElem? (i := 96) rfl))) (Or.inl (hw _ (List.mem_of_getElem? (i := 91) rfl))) (by decide) (t := (.array .byte)) (t' := (.array .int)) (by decide) (by decide)))
  have f_be := Fld.other W7 f_be (Or.inr (slot_ne (Or.inl (hw _ (List.mem_of_getElem? (i := 99) rfl))) (Or.inl (hw _ (List.mem_of_getElem? (i := 91) rfl))) (by decide) (t := (.array .long)) (t' := (.array .int)) (by decide) (by decide)))
  have f_en := Fld.other W7 f_en (Or.inr (slot_ne (Or.inl (hw _ (List.mem_of_getElem? (i := 101) rfl))) (Or.inl (hw _ (List.mem_of_getElem? (i := 91) rfl))) (by decide) (t := (.array (.object "com/example/margrave/margrave/engine/Holding"))) (t' := (.array .int)) (by decide) (by decide)))
  have f_fe := Fld.other W7 f_fe (Or.inr (slot_ne (Or.inl (hw _ (List.mem_of_getElem? (i := 103) rfl))) (Or.inl (hw _ (List.mem_of_getElem? (i := 91) rfl))) (by decide) (t := (.array .long)) (t' := (.array .int)) (by decide) (by decide)))
  have f_fp := Fld.other W7 f_fp (Or.inr (slot_ne (Or.inl (hw _ (List.mem_of_getElem? (i := 105) rfl))) (Or.inl (hw _ (List.mem_of_getElem? (i := 91) rfl))) (by decide) (t := (.array (.object "java/math/BigDecimal"))) (t' := (.array .int)) (by decide) (by decide)))
  have f_ix := Fld.other W7 f_ix (Or.inr (slot_ne (Or.inl (hw _ (List.mem_of_getElem? (i := 107) rfl))) (Or.inl (hw _ (List.mem_of_getElem? (i := 91) rfl))) (by decide) (t := (.object "com/example/margrave/margrave/engine/HashIndex")) (t' := (.array .int)) (by decide) (by decide)))
  have f_g := Fld.other W7 f_g (Or.inr (slot_ne (Or.inl (hw _ (List.mem_of_getElem? (i := 74) rfl))) (Or.inl (hw _ (List.mem_of_getElem? (i := 91) rfl))) (by decide) (t := (.object "com/example/margrave/margrave/engine/LotGroups")) (t' := (.array .int)) (by decide) (by decide)))
  have A1 := A1.other W7 ne_o_mb.symm
  have z7 : n0 ≤ h7.size := by rw [W7.size]; exact z6
  have KP := KP.wr W7 (by first | (refine Or.inl ?_; simp; done) | exact Or.inr gx_o)
  refine W.aloadN X7 hx 29 (hb hby d10_28) rfl rfl rfl ?_
  refine W.iloadN X7 hx 30 (hb hby d10_29) rfl rfl ?_
  refine W.newarr X7 hx hZ 32 n 31 (hw _ (List.mem_of_getElem? (i := 92) rfl)) e7 (hb hby d10_30) (own_ofNat (by omega)) n2 (by decide) (by decide) (by decide) rfl ?_
  intro T8 h8 a8 q8 X8 e8 E8 A4
  have ne_o_a8 : o ≠ a8 := fun q => by have := E.lt; rw [q, q8] at this; exact Nat.lt_irrefl _ this
  have ne_mb_a8 : mb ≠ a8 := fun q => by have := A1.lt; rw [q, q8] at this; exact Nat.lt_irrefl _ this
  have ge_a8 : n0 ≤ a8 := by have := z7; omega
  have gx_a8 : h0.size ≤ a8 := by have := KP.1; omega
  have E := E.ext E8
  have f_m := f_m.ext E8
  have f_si := f_si.ext E8
  have f_pu := f_pu.ext E8
  have f_be := f_be.ext E8
  have f_en := f_en.ext E8
  have f_fe := f_fe.ext E8
  have f_fp := f_fp.ext E8
  have f_ix := f_ix.ext E8
  have f_g := f_g.ext E8
  have A1 := A1.ext E8
  have z8 : n0 ≤ h8.size := Nat.le_trans z7 E8.1
  have KP := KP.ext E8
  refine W.putF X8 hx hZ 35 hown (hw _ (List.mem_of_getElem? (i := 93) rfl)) Via.refl e8 f_si E (Or.inl (hw _ (List.mem_of_getElem? (i := 94) rfl))) (hw _ (List.mem_of_getElem? (i := 1) rfl)) (ty := (.array .byte)) (by decide) rfl rfl (hb hby d10_32) rfl ?_
  intro T9 h9 X9 e9 W9 f_si
  have E := E.wr W9
  have f_m := Fld.other W9 f_m (Or.inr (slot_ne (Or.inl (hw _ (List.mem_of_getElem? (i := 87) rfl))) (Or.inl (hw _ (List.mem_of_getElem? (i := 94) rfl))) (by decide) (t := (.array .int)) (t' := (.array .byte)) (by decide) (by decide)))
  have f_pu := Fld.other W9 f_pu (Or.inr (slot_ne (Or.inl (hw _ (List.mem_of_getElem? (i := 96) rfl))) (Or.inl (hw _ (List.mem_of_getElem? (i := 94) rfl))) (by decide) (t := (.array .byte)) (t' := (.array .byte)) (by decide) (by decide)))
  have f_be := Fld.other W9 f_be (Or.inr (slot_ne (Or.inl (hw _ (List.mem_of_getElem? (i := 99) rfl))) (Or.inl (hw _ (List.mem_of_getElem? (i := 94) rfl))) (by decide) (t := (.array .long)) (t' := (.array .byte)) (by decide) (by decide)))
  have f_en := Fld.other W9 f_en (Or.inr (slot_ne (Or.inl (hw _ (List.mem_of_getElem? (i := 101) rfl))) (Or.inl (hw _ (List.mem_of_getElem? (i := 94) rfl))) (by decide) (t := (.array (.object "com/example/margrave/margrave/engine/Holding"))) (t' := (.array .byte)) (by decide) (by decide)))
  have f_fe := Fld.other W9 f_fe (Or.inr (slot_ne (Or.inl (hw _ (List.mem_of_getElem? (i := 103) rfl))) (Or.inl (hw _ (List.mem_of_getElem? (i := 94) rfl))) (by decide) (t := (.array .long)) (t' := (.array .byte)) (by decide) (by decide)))
  have f_fp := Fld.other W9 f_fp (Or.inr (slot_ne (Or.inl (hw _ (List.mem_of_getElem? (i := 105) rfl))) (Or.inl (hw _ (List.mem_of_getElem? (i := 94) rfl))) (by decide) (t := (.array (.object "java/math/BigDecimal"))) (t' := (.array .byte)) (by decide) (by decide)))
  have f_ix := Fld.other W9 f_ix (Or.inr (slot_ne (Or.inl (hw _ (List.mem_of_getElem? (i := 107) rfl))) (Or.inl (hw _ (List.mem_of_getElem? (i := 94) rfl))) (by decide) (t := (.object "com/example/margrave/margrave/engine/HashIndex")) (t' := (.array .byte)) (by decide) (by decide)))
  have f_g := Fld.other W9 f_g (Or.inr (slot_ne (Or.inl (hw _ (List.mem_of_getElem? (i := 74) rfl))) (Or.inl (hw _ (List.mem_of_getElem? (i := 94) rfl))) (by decide) (t := (.object "com/example/margrave/margrave/engine/LotGroups")) (t' := (.array .byte)) (by decide) (by decide)))
  have A1 := A1.other W9 ne_o_mb.symm
  have z9 : n0 ≤ h9.size := by rw [W9.size]; exact z8
  have KP := KP.wr W9 (by first | (refine Or.inl ?_; simp; done) | exact Or.inr gx_o)
  refine W.aloadN X9 hx 36 (hb hby d10_35) rfl rfl rfl ?_
  refine W.iloadN X9 hx 37 (hb hby d10_36) rfl rfl ?_
  refine W.newarr X9 hx hZ 39 n 31 (hw _ (List.mem_of_getElem? (i := 92) rfl)) e9 (hb hby d10_37) (own_ofNat (by omega)) n2 (by decide) (by decide) (by decide) rfl ?_
  intro T10 h10 a10 q10 X10 e10 E10 A5
  have ne_o_a10 : o ≠ a10 := fun q => by have := E.lt; rw [q, q10] at this; exact Nat.lt_irrefl _ this
  have ne_mb_a10 : mb ≠ a10 := fun q => by have := A1.lt; rw [q, q10] at this; exact Nat.lt_irrefl _ this
  have ge_a10 : n0 ≤ a10 := by have := z9; omega
  have gx_a10 : h0.size ≤ a10 := by have := KP.1; omega
  have E := E.ext E10
  have f_m := f_m.ext E10
  have f_pu := f_pu.ext E10
  have f_be := f_be.ext E10
  have f_en := f_en.ext E10
  have f_fe := f_fe.ext E10
  have f_fp := f_fp.ext E10
  have f_ix := f_ix.ext E10
  have f_g := f_g.ext E10
  have A1 := A1.ext E10
  have z10 : n0 ≤ h10.size := Nat.le_trans z9 E10.1
  have KP := KP.ext E10
  refine W.putF X10 hx hZ 42 hown (hw _ (List.mem_of_getElem? (i := 95) rfl)) Via.refl e10 f_pu E (Or.inl (hw _ (List.mem_of_getElem? (i := 96) rfl))) (hw _ (List.mem_of_getElem? (i := 1) rfl)) (ty := (.array .byte)) (by decide) rfl rfl (hb hby d10_39) rfl ?_
  intro T11 h11 X11 e11 W11 f_pu
  have E := E.wr W11
  have f_m := Fld.other W11 f_m (Or.inr (slot_ne (Or.inl (hw _ (List.mem_of_getElem? (i := 87) rfl))) (Or.inl (hw _ (List.mem_of_getElem? (i := 96) rfl))) (by decide) (t := (.array .int)) (t' := (.array .byte)) (by decide) (by decide)))
  have f_be := Fld.other W11 f_be (Or.inr (slot_ne (Or.inl (hw _ (List.mem_of_getElem? (i := 99) rfl))) (Or.inl (hw _ (List.mem_of_getElem? (i := 96) rfl))) (by decide) (t := (.array .long)) (t' := (.array .byte)) (by decide) (by decide)))
  have f_en := Fld.other W11 f_en (Or.inr (slot_ne (Or.inl (hw _ (List.mem_of_getElem? (i := 101) rfl))) (Or.inl (hw _ (List.mem_of_getElem? (i := 96) rfl))) (by decide) (t := (.array (.object "com/example/margrave/margrave/engine/Holding"))) (t' := (.array .byte)) (by decide) (by decide)))
  have f_fe := Fld.other W11 f_fe (Or.inr (slot_ne (Or.inl (hw _ (List.mem_of_getElem? (i := 103) rfl))) (Or.inl (hw _ (List.mem_of_getElem? (i := 96) rfl))) (by decide) (t := (.array .long)) (t' := (.array .byte)) (by decide) (by decide)))
  have f_fp := Fld.other W11 f_fp (Or.inr (slot_ne (Or.inl (hw _ (List.mem_of_getElem? (i := 105) rfl))) (Or.inl (hw _ (List.mem_of_getElem? (i := 96) rfl))) (by decide) (t := (.array (.object "java/math/BigDecimal"))) (t' := (.array .byte)) (by decide) (by decide)))
  have f_ix := Fld.other W11 f_ix (Or.inr (slot_ne (Or.inl (hw _ (List.mem_of_getElem? (i := 107) rfl))) (Or.inl (hw _ (List.mem_of_getElem? (i := 96) rfl))) (by decide) (t := (.object "com/example/margrave/margrave/engine/HashIndex")) (t' := (.array .byte)) (by decide) (by decide)))
  have f_g := Fld.other W11 f_g (Or.inr (slot_ne (Or.inl (hw _ (List.mem_of_getElem? (i := 74) rfl))) (Or.inl (hw _ (List.mem_of_getElem? (i := 96) rfl))) (by decide) (t := (.object "com/example/margrave/margrave/engine/LotGroups")) (t' := (.array .byte)) (by decide) (by decide)))
  have A1 := A1.other W11 ne_o_mb.symm
  have z11 : n0 ≤ h11.size := by rw [W11.size]; exact z10
  have KP := KP.wr W11 (by first | (refine Or.inl ?_; simp; done) | exact Or.inr gx_o)
  refine W.aloadN X11 hx 43 (hb hby d10_42) rfl rfl rfl ?_
  refine W.iloadN X11 hx 44 (hb hby d10_43) rfl rfl ?_
  refine W.newarr X11 hx hZ 46 n 31 (hw _ (List.mem_of_getElem? (i := 97) rfl)) e11 (hb hby d10_44) (own_ofNat (by omega)) n2 (by decide) (by decide) (by decide) rfl ?_
  intro T12 h12 bf q12 X12 e12 E12 A6
  have ne_o_bf : o ≠ bf := fun q => by have := E.lt; rw [q, q12] at this; exact Nat.lt_irrefl _ this
  have ne_mb_bf : mb ≠ bf := fun q => by have := A1.lt; rw [q, q12] at this; exact Nat.lt_irrefl _ this
  have ge_bf : n0 ≤ bf := by have := z11; omega
  have gx_bf : h0.size ≤ bf := by have := KP.1; omega
  have E := E.ext E12
  have f_m := f_m.ext E12
  have f_be := f_be.ext E12
  have f_en := f_en.ext E12
  have f_fe := f_fe.ext E12
  have f_fp := f_fp.ext E12
  have f_ix := f_ix.ext E12
  have f_g := f_g.ext E12
  have A1 := A1.ext E12
  have z12 : n0 ≤ h12.size := Nat.le_trans z11 E12.1
  have KP := KP.ext E12
  refine W.putF X12 hx hZ 49 hown (hw _ (List.mem_of_getElem? (i := 98) rfl)) Via.refl e12 f_be E (Or.inl (hw _ (List.mem_of_getElem? (i := 99) rfl))) (hw _ (List.mem_of_getElem? (i := 1) rfl)) (ty := (.array .long)) (by decide) rfl rfl (hb hby d10_46) rfl ?_
  intro T13 h13 X13 e13 W13 f_be
  have E := E.wr W13
  have f_m := Fld.other W13 f_m (Or.inr (slot_ne (Or.inl (hw _ (List.mem_of_getElem? (i := 87) rfl))) (Or.inl (hw _ (List.mem_of_getElem? (i := 99) rfl))) (by decide) (t := (.array .int)) (t' := (.array .long)) (by decide) (by decide)))
  have f_en := Fld.other W13 f_en (Or.inr (slot_ne (Or.inl (hw _ (List.mem_of_getElem? (i := 101) rfl))) (Or.inl (hw _ (List.mem_of_getElem? (i := 99) rfl))) (by decide) (t := (.array (.object "com/example/margrave/margrave/engine/Holding"))) (t' := (.array .long)) (by decide) (by decide)))
  have f_fe := Fld.other W13 f_fe (Or.inr (slot_ne (Or.inl (hw _ (List.mem_of_getElem? (i := 103) rfl))) (Or.inl (hw _ (List.mem_of_getElem? (i := 99) rfl))) (by decide) (t := (.array .long)) (t' := (.array .long)) (by decide) (by decide)))
  have f_fp := Fld.other W13 f_fp (Or.inr (slot_ne (Or.inl (hw _ (List.mem_of_getElem? (i := 105) rfl))) (Or.inl (hw _ (List.mem_of_getElem? (i := 99) rfl))) (by decide) (t := (.array (.object "java/math/BigDecimal"))) (t' := (.array .long)) (by decide) (by decide)))
  have f_ix := Fld.other W13 f_ix (Or.inr (slot_ne (Or.inl (hw _ (List.mem_of_getElem? (i := 107) rfl))) (Or.inl (hw _ (List.mem_of_getElem? (i := 99) rfl))) (by decide) (t := (.object "com/example/margrave/margrave/engine/HashIndex")) (t' := (.array .long)) (by decide) (by decide)))
  have f_g := Fld.other W13 f_g (Or.inr (slot_ne (Or.inl (hw _ (List.mem_of_getElem? (i := 74) rfl))) (Or.inl (hw _ (List.mem_of_getElem? (i := 99) rfl))) (by decide) (t := (.object "com/example/margrave/margrave/engine/LotGroups")) (t' := (.array .long)) (by decide) (by decide)))
  have A1 := A1.other W13 ne_o_mb.symm
  have A6 := A6.other W13 ne_o_bf.symm
  have z13 : n0 ≤ h13.size := by rw [W13.size]; exact z12
  have KP := KP.wr W13 (by first | (refine Or.inl ?_; simp; done) | exact Or.inr gx_o)
  refine W.aloadN X13 hx 50 (hb hby d10_49) rfl rfl rfl ?_
  refine W.anull X13 hx 51 (hb hby d10_50) rfl ?_
  refine W.putF X13 hx hZ 54 hown (hw _ (List.mem_of_getElem? (i := 100) rfl)) Via.refl e13 f_en E (Or.inl (hw _ (List.mem_of_getElem? (i := 101) rfl))) (hw _ (List.mem_of_getElem? (i := 1) rfl)) (ty := (.array (.object "com/example/margrave/margrave/engine/Holding"))) (by decide) rfl rfl (hb hby d10_51) rfl ?_
  intro T14 h14 X14 e14 W14 f_en
  have E := E.wr W14
  have f_m := Fld.other W14 f_m (Or.inr (slot_ne (Or.inl (hw _ (List.mem_of_getElem? (i := 87) rfl))) (Or.inl (hw _ (List.mem_of_getElem? (i := 101) rfl))) (by decide) (t := (.array .int)) (t' := (.array (.object "com/example/margrave/margrave/engine/Holding"))) (by decide) (by decide)))
  have f_be := Fld.other W14 f_be (Or.inr (slot_ne (Or.inl (hw _ (List.mem_of_getElem? (i := 99) rfl))) (Or.inl (hw _ (List.mem_of_getElem? (i := 101) rfl))) (by decide) (t := (.array .long)) (t' := (.array (.object "com/example/margrave/margrave/engine/Holding"))) (by decide) (by decide)))
  have f_fe := Fld.other W14 f_fe (Or.inr (slot_ne (Or.inl (hw _ (List.mem_of_getElem? (i := 103) rfl))) (Or.inl (hw _ (List.mem_of_getElem? (i := 101) rfl))) (by decide) (t := (.array .long)) (t' := (.array (.object "com/example/margrave/margrave/engine/Holding"))) (by decide) (by decide)))
  have f_fp := Fld.other W14 f_fp (Or.inr (slot_ne (Or.inl (hw _ (List.mem_of_getElem? (i := 105) rfl))) (Or.inl (hw _ (List.mem_of_getElem? (i := 101) rfl))) (by decide) (t := (.array (.object "java/math/BigDecimal"))) (t' := (.array (.object "com/example/margrave/margrave/engine/Holding"))) (by decide) (by decide)))
  have f_ix := Fld.other W14 f_ix (Or.inr (slot_ne (Or.inl (hw _ (List.mem_of_getElem? (i := 107) rfl))) (Or.inl (hw _ (List.mem_of_getElem? (i := 101) rfl))) (by decide) (t := (.object "com/example/margrave/margrave/engine/HashIndex")) (t' := (.array (.object "com/example/margrave/margrave/engine/Holding"))) (by decide) (by decide)))
  have f_g := Fld.other W14 f_g (Or.inr (slot_ne (Or.inl (hw _ (List.mem_of_getElem? (i := 74) rfl))) (Or.inl (hw _ (List.mem_of_getElem? (i := 101) rfl))) (by decide) (t := (.object "com/example/margrave/margrave/engine/LotGroups")) (t' := (.array (.object "com/example/margrave/margrave/engine/Holding"))) (by decide) (by decide)))
  have A1 := A1.other W14 ne_o_mb.symm
  have A6 := A6.other W14 ne_o_bf.symm
  have z14 : n0 ≤ h14.size := by rw [W14.size]; exact z13
  have KP := KP.wr W14 (by first | (refine Or.inl ?_; simp; done) | exact Or.inr gx_o)
  refine W.aloadN X14 hx 55 (hb hby d10_54) rfl rfl rfl ?_
  refine W.anull X14 hx 56 (hb hby d10_55) rfl ?_
  refine W.putF X14 hx hZ 59 hown (hw _ (List.mem_of_getElem? (i := 102) rfl)) Via.refl e14 f_fe E (Or.inl (hw _ (List.mem_of_getElem? (i := 103) rfl))) (hw _ (List.mem_of_getElem? (i := 1) rfl)) (ty := (.array .long)) (by decide) rfl rfl (hb hby d10_56) rfl ?_
  intro T15 h15 X15 e15 W15 f_fe
  have E := E.wr W15
  have f_m := Fld.other W15 f_m (Or.inr (slot_ne (Or.inl (hw _ (List.mem_of_getElem? (i := 87) rfl))) (Or.inl (hw _ (List.mem_of_getElem? (i := 103) rfl))) (by decide) (t := (.array .int)) (t' := (.array .long)) (by decide) (by decide)))
  have f_be := Fld.other W15 f_be (Or.inr (slot_ne (Or.inl (hw _ (List.mem_of_getElem? (i := 99) rfl))) (Or.inl (hw _ (List.mem_of_getElem? (i := 103) rfl))) (by decide) (t := (.array .long)) (t' := (.array .long)) (by decide) (by decide)))
  have f_en := Fld.other W15 f_en (Or.inr (slot_ne (Or.inl (hw _ (List.mem_of_getElem? (i := 101) rfl))) (Or.inl (hw _ (List.mem_of_getElem? (i := 103) rfl))) (by decide) (t := (.array (.object "com/example/margrave/margrave/engine/Holding"))) (t' := (.array .long)) (by decide) (by decide)))
  have f_fp := Fld.other W15 f_fp (Or.inr (slot_ne (Or.inl (hw _ (List.mem_of_getElem? (i := 105) rfl))) (Or.inl (hw _ (List.mem_of_getElem? (i := 103) rfl))) (by decide) (t := (.array (.object "java/math/BigDecimal"))) (t' := (.array .long)) (by decide) (by decide)))
  have f_ix := Fld.other W15 f_ix (Or.inr (slot_ne (Or.inl (hw _ (List.mem_of_getElem? (i := 107) rfl))) (Or.inl (hw _ (List.mem_of_getElem? (i := 103) rfl))) (by decide) (t := (.object "com/example/margrave/margrave/engine/HashIndex")) (t' := (.array .long)) (by decide) (by decide)))
  have f_g := Fld.other W15 f_g (Or.inr (slot_ne (Or.inl (hw _ (List.mem_of_getElem? (i := 74) rfl))) (Or.inl (hw _ (List.mem_of_getElem? (i := 103) rfl))) (by decide) (t := (.object "com/example/margrave/margrave/engine/LotGroups")) (t' := (.array .long)) (by decide) (by decide)))
  have A1 := A1.other W15 ne_o_mb.symm
  have A6 := A6.other W15 ne_o_bf.symm
  have z15 : n0 ≤ h15.size := by rw [W15.size]; exact z14
  have KP := KP.wr W15 (by first | (refine Or.inl ?_; simp; done) | exact Or.inr gx_o)
  refine W.aloadN X15 hx 60 (hb hby d10_59) rfl rfl rfl ?_
  refine W.anull X15 hx 61 (hb hby d10_60) rfl ?_
  refine W.putF X15 hx hZ 64 hown (hw _ (List.mem_of_getElem? (i := 104) rfl)) Via.refl e15 f_fp E (Or.inl (hw _ (List.mem_of_getElem? (i := 105) rfl))) (hw _ (List.mem_of_getElem? (i := 1) rfl)) (ty := (.array (.object "java/math/BigDecimal"))) (by decide) rfl rfl (hb hby d10_61) rfl ?_
  intro T16 h16 X16 e16 W16 f_fp
  have E := E.wr W16
  have f_m := Fld.other W16 f_m (Or.inr (slot_ne (Or.inl (hw _ (List.mem_of_getElem? (i := 87) rfl))) (Or.inl (hw _ (List.mem_of_getElem? (i := 105) rfl))) (by decide) (t := (.array .int)) (t' := (.array (.object "java/math/BigDecimal"))) (by decide) (by decide)))
  have f_be := Fld.other W16 f_be (Or.inr (slot_ne (Or.inl (hw _ (List.mem_of_getElem? (i := 99) rfl))) (Or.inl (hw _ (List.mem_of_getElem? (i := 105) rfl))) (by decide) (t := (.array .long)) (t' := (.array (.object "java/math/BigDecimal"))) (by decide) (by decide)))
  have f_en := Fld.other W16 f_en (Or.inr (slot_ne (Or.inl (hw _ (List.mem_of_getElem? (i := 101) rfl))) (Or.inl (hw _ (List.mem_of_getElem? (i := 105) rfl))) (by decide) (t := (.array (.object "com/example/margrave/margrave/engine/Holding"))) (t' := (.array (.object "java/math/BigDecimal"))) (by decide) (by decide)))
  have f_ix := Fld.other W16 f_ix (Or.inr (slot_ne (Or.inl (hw _ (List.mem_of_getElem? (i := 107) rfl))) (Or.inl (hw _ (List.mem_of_getElem? (i := 105) rfl))) (by decide) (t := (.object "com/example/margrave/margrave/engine/HashIndex")) (t' := (.array (.object "java/math/BigDecimal"))) (by decide) (by decide)))
  have f_g := Fld.other W16 f_g (Or.inr (slot_ne (Or.inl (hw _ (List.mem_of_getElem? (i := 74) rfl))) (Or.inl (hw _ (List.mem_of_getElem? (i := 105) rfl))) (by decide) (t := (.object "com/example/margrave/margrave/engine/LotGroups")) (t' := (.array (.object "java/math/BigDecimal"))) (by decide) (by decide)))
  have A1 := A1.other W16 ne_o_mb.symm
  have A6 := A6.other W16 ne_o_bf.symm
  have z16 : n0 ≤ h16.size := by rw [W16.size]; exact z15
  have KP := KP.wr W16 (by first | (refine Or.inl ?_; simp; done) | exact Or.inr gx_o)
  refine W.aloadN X16 hx 65 (hb hby d10_64) rfl rfl rfl ?_
  refine W.anull X16 hx 66 (hb hby d10_65) rfl ?_
  refine W.putF X16 hx hZ 69 hown (hw _ (List.mem_of_getElem? (i := 106) rfl)) Via.refl e16 f_ix E (Or.inl (hw _ (List.mem_of_getElem? (i := 107) rfl))) (hw _ (List.mem_of_getElem? (i := 1) rfl)) (ty := (.object "com/example/margrave/margrave/engine/HashIndex")) (by decide) rfl rfl (hb hby d10_66) rfl ?_
  intro T17 h17 X17 e17 W17 f_ix
  have E := E.wr W17
  have f_m := Fld.other W17 f_m (Or.inr (slot_ne (Or.inl (hw _ (List.mem_of_getElem? (i := 87) rfl))) (Or.inl (hw _ (List.mem_of_getElem? (i := 107) rfl))) (by decide) (t := (.array .int)) (t' := (.object "com/example/margrave/margrave/engine/HashIndex")) (by decide) (by decide)))
  have f_be := Fld.other W17 f_be (Or.inr (slot_ne (Or.inl (hw _ (List.mem_of_getElem? (i := 99) rfl))) (Or.inl (hw _ (List.mem_of_getElem? (i := 107) rfl))) (by decide) (t := (.array .long)) (t' := (.object "com/example/margrave/margrave/engine/HashIndex")) (by decide) (by decide)))
  have f_en := Fld.other W17 f_en (Or.inr (slot_ne (Or.inl (hw _ (List.mem_of_getElem? (i := 101) rfl))) (Or.inl (hw _ (List.mem_of_getElem? (i := 107) rfl))) (by decide) (t := (.array (.object "com/example/margrave/margrave/engine/Holding"))) (t' := (.object "com/example/margrave/margrave/engine/HashIndex")) (by decide) (by decide)))
  have f_fp := Fld.other W17 f_fp (Or.inr (slot_ne (Or.inl (hw _ (List.mem_of_getElem? (i := 105) rfl))) (Or.inl (hw _ (List.mem_of_getElem? (i := 107) rfl))) (by decide) (t := (.array (.object "java/math/BigDecimal"))) (t' := (.object "com/example/margrave/margrave/engine/HashIndex")) (by decide) (by decide)))
  have f_g := Fld.other W17 f_g (Or.inr (slot_ne (Or.inl (hw _ (List.mem_of_getElem? (i := 74) rfl))) (Or.inl (hw _ (List.mem_of_getElem? (i := 107) rfl))) (by decide) (t := (.object "com/example/margrave/margrave/engine/LotGroups")) (t' := (.object "com/example/margrave/margrave/engine/HashIndex")) (by decide) (by decide)))
  have A1 := A1.other W17 ne_o_mb.symm
  have A6 := A6.other W17 ne_o_bf.symm
  have z17 : n0 ≤ h17.size := by rw [W17.size]; exact z16
  have KP := KP.wr W17 (by first | (refine Or.inl ?_; simp; done) | exact Or.inr gx_o)
  refine W.vret X17 hx hlk hret (hb hby d10_69) (by decide) (by decide) ?_
  rw [e17]
  exact ⟨rfl, (Fr.app (Fr.app (Fr.app (Fr.app (Fr.app (Fr.app (Fr.app (Fr.app (Fr.app (Fr.app (Fr.app (Fr.nil _) (Fr.nil _)) (fr1 ge_o)) (fr1 ge_o)) (fr1 ge_o)) (fr1 ge_o)) (fr1 ge_o)) (fr1 ge_o)) (fr1 ge_o)) (fr1 ge_o)) (fr1 ge_o)) (fr1 ge_o)), KP, mb, bf, ge_o, ge_bf, E, f_g, f_m, f_be, f_en, f_fp, A1, A6, ne_o_mb, ne_o_bf, ne_mb_bf⟩
theorem d2_0 : decode prog_82_method_3_code 0 = .ok (.aload_n 0, 1) := by decide +kernel
theorem d2_1 : decode prog_82_method_3_code 1 = .ok (.invokespecial 7, 3) := by decide +kernel
theorem d2_4 : decode prog_82_method_3_code 4 = .ok (.aload_n 0, 1) := by decide +kernel
theorem d2_5 : decode prog_82_method_3_code 5 = .ok (.new 12, 3) := by decide +kernel
theorem d2_8 : decode prog_82_method_3_code 8 = .ok (.dup, 1) := by decide +kernel
theorem d2_9 : decode prog_82_method_3_code 9 = .ok (.invokespecial 14, 3) := by decide +kernel
theorem d2_12 : decode prog_82_method_3_code 12 = .ok (.putfield 15, 3) := by decide +kernel
theorem d2_15 : decode prog_82_method_3_code 15 = .ok (.aload_n 0, 1) := by decide +kernel
theorem d2_16 : decode prog_82_method_3_code 16 = .ok (.new 12, 3) := by decide +kernel
theorem d2_19 : decode prog_82_method_3_code 19 = .ok (.dup, 1) := by decide +kernel
theorem d2_20 : decode prog_82_method_3_code 20 = .ok (.invokespecial 14, 3) := by decide +kernel
theorem d2_23 : decode prog_82_method_3_code 23 = .ok (.putfield 19, 3) := by decide +kernel
theorem d2_26 : decode prog_82_method_3_code 26 = .ok (.aload_n 0, 1) := by decide +kernel
theorem d2_27 : decode prog_82_method_3_code 27 = .ok (.new 12, 3) := by decide +kernel
theorem d2_30 : decode prog_82_method_3_code 30 = .ok (.dup, 1) := by decide +kernel
theorem d2_31 : decode prog_82_method_3_code 31 = .ok (.invokespecial 14, 3) := by decide +kernel
theorem d2_34 : decode prog_82_method_3_code 34 = .ok (.putfield 22, 3) := by decide +kernel
theorem d2_37 : decode prog_82_method_3_code 37 = .ok (.aload_n 0, 1) := by decide +kernel
theorem d2_38 : decode prog_82_method_3_code 38 = .ok (.iconst 1, 1) := by decide +kernel
theorem d2_39 : decode prog_82_method_3_code 39 = .ok (.putfield 25, 3) := by decide +kernel
theorem d2_42 : decode prog_82_method_3_code 42 = .ok (.aload_n 0, 1) := by decide +kernel
theorem d2_43 : decode prog_82_method_3_code 43 = .ok (.aload_n 2, 1) := by decide +kernel
theorem d2_44 : decode prog_82_method_3_code 44 = .ok (.ifnull 7, 3) := by decide +kernel
theorem d2_47 : decode prog_82_method_3_code 47 = .ok (.iconst 1, 1) := by decide +kernel
theorem d2_48 : decode prog_82_method_3_code 48 = .ok (.goto 4, 3) := by decide +kernel
theorem d2_51 : decode prog_82_method_3_code 51 = .ok (.iconst 0, 1) := by decide +kernel
theorem d2_52 : decode prog_82_method_3_code 52 = .ok (.putfield 29, 3) := by decide +kernel
theorem d2_55 : decode prog_82_method_3_code 55 = .ok (.aload_n 0, 1) := by decide +kernel
theorem d2_56 : decode prog_82_method_3_code 56 = .ok (.aload_n 2, 1) := by decide +kernel
theorem d2_57 : decode prog_82_method_3_code 57 = .ok (.putfield 32, 3) := by decide +kernel
theorem d2_60 : decode prog_82_method_3_code 60 = .ok (.aload_n 0, 1) := by decide +kernel
theorem d2_61 : decode prog_82_method_3_code 61 = .ok (.aload_n 3, 1) := by decide +kernel
theorem d2_62 : decode prog_82_method_3_code 62 = .ok (.putfield 36, 3) := by decide +kernel
theorem d2_65 : decode prog_82_method_3_code 65 = .ok (.aload_n 0, 1) := by decide +kernel
theorem d2_66 : decode prog_82_method_3_code 66 = .ok (.iload_n 1, 1) := by decide +kernel
theorem d2_67 : decode prog_82_method_3_code 67 = .ok (.invokevirtual 40, 3) := by decide +kernel
theorem d2_70 : decode prog_82_method_3_code 70 = .ok (.return_, 1) := by decide +kernel
theorem pn_2 : plainName "com/example/margrave/margrave/engine/Holdings" = true := by first | (simp [plainName, overriddenIn]; done) | decide +kernel
theorem ef_rmI3 (m : MethodId) (o : Addr) (ex : Nat) : entryFrame m #[(.ref o), (.int (Int32.ofNat ex)), .null, .null] 4 = mkF m 0 #[.val (.ref o), .val (.int (Int32.ofNat ex)), .val .null, .val .null] [] := by first | (simp [entryFrame, mkF, argsToLocals, Value.category]; done) | rfl
set_option maxRecDepth 65536 in
set_option maxHeartbeats 40000000 in
theorem rmI3 (l : Launch) (Z : State) (a0 : Array Value) (hw : ∀ d ∈ tables_1, d.before a0 Z = true) (o dv : Addr) (ex n : Nat) (h0 : Heap) (n0 : Nat) (Z0 : n0 ≤ h0.size) (E : Exa Z h0 o "com/example/margrave/margrave/engine/Holdings") (i_me : Fld Z h0 o "com/example/margrave/margrave/engine/Holdings" "members" "Lcom/example/margrave/margrave/engine/Holdings$Numbering;" .null) (i_cl : Fld Z h0 o "com/example/margrave/margrave/engine/Holdings" "clients" "Lcom/example/margrave/margrave/engine/Holdings$Numbering;" .null) (i_co : Fld Z h0 o "com/example/margrave/margrave/engine/Holdings" "contracts" "Lcom/example/margrave/margrave/engine/Holdings$Numbering;" .null) (i_io : Fld Z h0 o "com/example/margrave/margrave/engine/Holdings" "inOrder" "Z" (.int 0)) (i_de : Fld Z h0 o "com/example/margrave/margrave/engine/Holdings" "detailed" "Z" (.int 0)) (i_ha : Fld Z h0 o "com/example/margrave/margrave/engine/Holdings" "hash" "Ljava/util/function/LongBinaryOperator;" .null) (f_m : Fld Z h0 o "com/example/margrave/margrave/engine/Holdings" "member" "[I" .null) (f_cl : Fld Z h0 o "com/example/margrave/margrave/engine/Holdings" "client" "[I" .null) (f_co : Fld Z h0 o "com/example/margrave/margrave/engine/Holdings" "contract" "[I" .null) (f_si : Fld Z h0 o "com/example/margrave/margrave/engine/Holdings" "side" "[B" .null) (f_pu : Fld Z h0 o "com/example/margrave/margrave/engine/Holdings" "purpose" "[B" .null) (f_be : Fld Z h0 o "com/example/margrave/margrave/engine/Holdings" "before" "[J" .null) (f_en : Fld Z h0 o "com/example/margrave/margrave/engine/Holdings" "entries" "[Lcom/example/margrave/margrave/engine/Holding;" .null) (f_fe : Fld Z h0 o "com/example/margrave/margrave/engine/Holdings" "fees" "[J" .null) (f_fp : Fld Z h0 o "com/example/margrave/margrave/engine/Holdings" "feesPast" "[Ljava/math/BigDecimal;" .null) (f_ix : Fld Z h0 o "com/example/margrave/margrave/engine/Holdings" "index" "Lcom/example/margrave/margrave/engine/HashIndex;" .null) (f_g : Fld Z h0 o "com/example/margrave/margrave/engine/Holdings" "groups" "Lcom/example/margrave/margrave/engine/LotGroups;" .null) (SD : Sta Z h0 "java/util/ArrayList" "DEFAULTCAPACITY_EMPTY_ELEMENTDATA" "[Ljava/lang/Object;" (.ref dv)) (hn : n = if ex < 16 then 16 else ex) (hex : ex ≤ 31) (ge_o : n0 ≤ o) :
    Con l Z (⟨"com/example/margrave/margrave/engine/Holdings", "<init>", "(ILcom/example/margrave/margrave/engine/LotGroups;Ljava/util/function/LongBinaryOperator;)V"⟩ : MethodName) prog_82_method_3_code 4 none [] ({ frames := 5, cells := 15, slots := 231, locals := 100 } : Room) #[(.ref o), (.int (Int32.ofNat ex)), .null, .null] h0 (fun v h L => v = none ∧ Fr n0 L ∧ Keep h0 h [o] ∧ ∃ mb bf : Addr, HO Z h n0 o mb bf n (fun _ => 0) .null) := by
  refine Con.of (plainFor_of_name pn_2) ?_
  intro p e s m below meth c s₁ hx hby hml hown hnm hret hlk hZ X0 e0
  refine Wp.enter (ef_rmI3 m o ex) ?_
  have KP : Keep h0 h0 [o] := Keep.refl _ _
  refine W.aloadN X0 hx 1 (hb hby d2_0) rfl rfl rfl ?_
  refine W.initO X0 hx hZ 4 0 hown (hw _ (List.mem_of_getElem? (i := 9) rfl)) (hw _ (List.mem_of_getElem? (i := 10) rfl)) (hw _ (List.mem_of_getElem? (i := 11) rfl)) e0 (by rw [hml]; rfl) (hb hby d2_1) (by decide) rfl (by decide) rfl ?_
  intro T1 X1 e1
  refine W.aloadN X1 hx 5 (hb hby d2_4) rfl rfl rfl ?_
  refine W.newO X1 hx hZ 8 hown (hw _ (List.mem_of_getElem? (i := 12) rfl)) (hw _ (List.mem_of_getElem? (i := 13) rfl)) (hw _ (List.mem_of_getElem? (i := 14) rfl)) e1 (hb hby d2_5) (by decide) (by decide) rfl ?_
  intro T2 h2 nb0 q2 X2 e2 E2 Enb0 Dnb0
  have ne_o_nb0 : o ≠ nb0 := fun q => by have := E.lt; rw [q, q2] at this; exact Nat.lt_irrefl _ this
  have ge_nb0 : n0 ≤ nb0 := by have := Z0; omega
  have gx_nb0 : h0.size ≤ nb0 := by have := KP.1; omega
  have E := E.ext E2
  have i_me := i_me.ext E2
  have i_cl := i_cl.ext E2
  have i_co := i_co.ext E2
  have i_io := i_io.ext E2
  have i_de := i_de.ext E2
  have i_ha := i_ha.ext E2
  have f_m := f_m.ext E2
  have f_cl := f_cl.ext E2
  have f_co := f_co.ext E2
  have f_si := f_si.ext E2
  have f_pu := f_pu.ext E2
  have f_be := f_be.ext E2
  have f_en := f_en.ext E2
  have f_fe := f_fe.ext E2
  have f_fp := f_fp.ext E2
  have f_ix := f_ix.ext E2
  have f_g := f_g.ext E2
  have SD := SD.ext E2
  have z2 : n0 ≤ h2.size := Nat.le_trans Z0 E2.1
  have KP := KP.ext E2
  have nb0_1 := Dnb0 (Or.inr (hw _ (List.mem_of_getElem? (i := 36) rfl))) (ty := (.object "java/util/Map")) (by decide)
  have nb0_2 := Dnb0 (Or.inr (hw _ (List.mem_of_getElem? (i := 62) rfl))) (ty := (.object "java/util/List")) (by decide)
  refine W.dup X2 hx 9 (hb hby d2_8) rfl rfl ?_
  have EN0 := Enb0
  refine W.callIR X2 hx hZ 12 2 nb0 [] rfl hown (hw _ (List.mem_of_getElem? (i := 15) rfl)) (hw _ (List.mem_of_getElem? (i := 16) rfl)) (hw _ (List.mem_of_getElem? (i := 14) rfl)) (hw _ (List.mem_of_getElem? (i := 17) rfl)) (by decide) pd_0 rfl e2 (rmNB l Z a0 hw nb0 dv h2 n0 z2 Enb0 nb0_1 nb0_2 SD ge_nb0) (hb hby d2_9) (by rw [hml]; rfl) rfl rfl (by decide) (by decide) (by decide) (by decide) rfl ?_
  rintro v3 T3 L3 X3 ⟨rfl, N3, K3⟩
  have SD := Sta.keepE SD K3 EN0
  have E := E.keep K3
  have i_me := i_me.keep K3 (ninS ne_o_nb0 nin0)
  have i_cl := i_cl.keep K3 (ninS ne_o_nb0 nin0)
  have i_co := i_co.keep K3 (ninS ne_o_nb0 nin0)
  have i_io := i_io.keep K3 (ninS ne_o_nb0 nin0)
  have i_de := i_de.keep K3 (ninS ne_o_nb0 nin0)
  have i_ha := i_ha.keep K3 (ninS ne_o_nb0 nin0)
  have f_m := f_m.keep K3 (ninS ne_o_nb0 nin0)
  have f_cl := f_cl.keep K3 (ninS ne_o_nb0 nin0)
  have f_co := f_co.keep K3 (ninS ne_o_nb0 nin0)
  have f_si := f_si.keep K3 (ninS ne_o_nb0 nin0)
  have f_pu := f_pu.keep K3 (ninS ne_o_nb0 nin0)
  have f_be := f_be.keep K3 (ninS ne_o_nb0 nin0)
  have f_en := f_en.keep K3 (ninS ne_o_nb0 nin0)
  have f_fe := f_fe.keep K3 (ninS ne_o_nb0 nin0)
  have f_fp := f_fp.keep K3 (ninS ne_o_nb0 nin0)
  have f_ix := f_ix.keep K3 (ninS ne_o_nb0 nin0)
  have f_g := f_g.keep K3 (ninS ne_o_nb0 nin0)
  have z3 : n0 ≤ T3.heap.size := Nat.le_trans z2 K3.1
  have KP := KP.trans K3 (allS (Or.inr gx_nb0) all0)
  refine W.putF X3 hx hZ 15 hown (hw _ (List.mem_of_getElem? (i := 63) rfl)) Via.refl rfl i_me E (Or.inr ⟨(hw _ (List.mem_of_getElem? (i := 64) rfl)), rfl, hnm⟩) (hw _ (List.mem_of_getElem? (i := 1) rfl)) (ty := (.object "com/example/margrave/margrave/engine/Holdings$Numbering")) (by decide) rfl rfl (hb hby d2_12) rfl ?_
  intro T4 h4 X4 e4 W4 i_me
  have E := E.wr W4
  have i_cl := Fld.other W4 i_cl (Or.inr (slot_ne (Or.inr (hw _ (List.mem_of_getElem? (i := 66) rfl))) (Or.inr (hw _ (List.mem_of_getElem? (i := 64) rfl))) (by decide) (t := (.object "com/example/margrave/margrave/engine/Holdings$Numbering")) (t' := (.object "com/example/margrave/margrave/engine/Holdings$Numbering")) (by decide) (by decide)))
  have i_co := Fld.other W4 i_co (Or.inr (slot_ne (Or.inr (hw _ (List.mem_of_getElem? (i := 68) rfl))) (Or.inr (hw _ (List.mem_of_getElem? (i := 64) rfl))) (by decide) (t := (.object "com/example/margrave/margrave/engine/Holdings$Numbering")) (t' := (.object "com/example/margrave/margrave/engine/Holdings$Numbering")) (by decide) (by decide)))
  have i_io := Fld.other W4 i_io (Or.inr (slot_ne (Or.inl (hw _ (List.mem_of_getElem? (i := 70) rfl))) (Or.inr (hw _ (List.mem_of_getElem? (i := 64) rfl))) (by decide) (t := .boolean) (t' := (.object "com/example/margrave/margrave/engine/Holdings$Numbering")) (by decide) (by decide)))
  have i_de := Fld.other W4 i_de (Or.inr (slot_ne (Or.inr (hw _ (List.mem_of_getElem? (i := 72) rfl))) (Or.inr (hw _ (List.mem_of_getElem? (i := 64) rfl))) (by decide) (t := .boolean) (t' := (.object "com/example/margrave/margrave/engine/Holdings$Numbering")) (by decide) (by decide)))
  have i_ha := Fld.other W4 i_ha (Or.inr (slot_ne (Or.inl (hw _ (List.mem_of_getElem? (i := 76) rfl))) (Or.inr (hw _ (List.mem_of_getElem? (i := 64) rfl))) (by decide) (t := (.object "java/util/function/LongBinaryOperator")) (t' := (.object "com/example/margrave/margrave/engine/Holdings$Numbering")) (by decide) (by decide)))
  have f_m := Fld.other W4 f_m (Or.inr (slot_ne (Or.inl (hw _ (List.mem_of_getElem? (i := 87) rfl))) (Or.inr (hw _ (List.mem_of_getElem? (i := 64) rfl))) (by decide) (t := (.array .int)) (t' := (.object "com/example/margrave/margrave/engine/Holdings$Numbering")) (by decide) (by decide)))
  have f_cl := Fld.other W4 f_cl (Or.inr (slot_ne (Or.inl (hw _ (List.mem_of_getElem? (i := 89) rfl))) (Or.inr (hw _ (List.mem_of_getElem? (i := 64) rfl))) (by decide) (t := (.array .int)) (t' := (.object "com/example/margrave/margrave/engine/Holdings$Numbering")) (by decide) (by decide)))
  have f_co := Fld.other W4 f_co (Or.inr (slot_ne (Or.inl (hw _ (List.mem_of_getElem? (i := 91) rfl))) (Or.inr (hw _ (List.mem_of_getElem? (i := 64) rfl))) (by decide) (t := (.array .int)) (t' := (.object "com/example/margrave/margrave/engine/Holdings$Numbering")) (by decide) (by decide)))
  have f_si := Fld.other W4 f_si (Or.inr (slot_ne (Or.inl (hw _ (List.mem_of_getElem? (i := 94) rfl))) (Or.inr (hw _ (List.mem_of_getElem? (i := 64) rfl))) (by decide) (t := (.array .byte)) (t' := (.object "com/example/margrave/margrave/engine/Holdings$Numbering")) (by decide) (by decide)))
  have f_pu := Fld.other W4 f_pu (Or.inr (slot_ne (Or.inl (hw _ (List.mem_of_getElem? (i := 96) rfl))) (Or.inr (hw _ (List.mem_of_getElem? (i := 64) rfl))) (by decide) (t := (.array .byte)) (t' := (.object "com/example/margrave/margrave/engine/Holdings$Numbering")) (by decide) (by decide)))
  have f_be := Fld.other W4 f_be (Or.inr (slot_ne (Or.inl (hw _ (List.mem_of_getElem? (i := 99) rfl))) (Or.inr (hw _ (List.mem_of_getElem? (i := 64) rfl))) (by decide) (t := (.array .long)) (t' := (.object "com/example/margrave/margrave/engine/Holdings$Numbering")) (by decide) (by decide)))
  have f_en := Fld.other W4 f_en (Or.inr (slot_ne (Or.inl (hw _ (List.mem_of_getElem? (i := 101) rfl))) (Or.inr (hw _ (List.mem_of_getElem? (i := 64) rfl))) (by decide) (t := (.array (.object "com/example/margrave/margrave/engine/Holding"))) (t' := (.object "com/example/margrave/margrave/engine/Holdings$Numbering")) (by decide) (by decide)))
  have f_fe := Fld.other W4 f_fe (Or.inr (slot_ne (Or.inl (hw _ (List.mem_of_getElem? (i := 103) rfl))) (Or.inr (hw _ (List.mem_of_getElem? (i := 64) rfl))) (by decide) (t := (.array .long)) (t' := (.object "com/example/margrave/margrave/engine/Holdings$Numbering")) (by decide) (by decide)))
  have f_fp := Fld.other W4 f_fp (Or.inr (slot_ne (Or.inl (hw _ (List.mem_of_getElem? (i := 105) rfl))) (Or.inr (hw _ (List.mem_of_getElem? (i := 64) rfl))) (by decide) (t := (.array (.object "java/math/BigDecimal"))) (t' := (.object "com/example/margrave/margrave/engine/Holdings$Numbering")) (by decide) (by decide)))
  have f_ix := Fld.other W4 f_ix (Or.inr (slot_ne (Or.inl (hw _ (List.mem_of_getElem? (i := 107) rfl))) (Or.inr (hw _ (List.mem_of_getElem? (i := 64) rfl))) (by decide) (t := (.object "com/example/margrave/margrave/engine/HashIndex")) (t' := (.object "com/example/margrave/margrave/engine/Holdings$Numbering")) (by decide) (by decide)))
  have f_g := Fld.other W4 f_g (Or.inr (slot_ne (Or.inl (hw _ (List.mem_of_getElem? (i := 74) rfl))) (Or.inr (hw _ (List.mem_of_getElem? (i := 64) rfl))) (by decide) (t := (.object "com/example/margrave/margrave/engine/LotGroups")) (t' := (.object "com/example/margrave/margrave/engine/Holdings$Numbering")) (by decide) (by decide)))
  have SD := SD.wr W4
  have z4 : n0 ≤ h4.size := by rw [W4.size]; exact z3
  have KP := KP.wr W4 (by first | (refine Or.inl ?_; simp; done) | exact Or.inr gx_o)
  refine W.aloadN X4 hx 16 (hb hby d2_15) rfl rfl rfl ?_
  refine W.newO X4 hx hZ 19 hown (hw _ (List.mem_of_getElem? (i := 12) rfl)) (hw _ (List.mem_of_getElem? (i := 13) rfl)) (hw _ (List.mem_of_getElem? (i := 14) rfl)) e4 (hb hby d2_16) (by decide) (by decide) rfl ?_
  intro T5 h5 nb1 q5 X5 e5 E5 Enb1 Dnb1
  have ne_o_nb1 : o ≠ nb1 := fun q => by have := E.lt; rw [q, q5] at this; exact Nat.lt_irrefl _ this
  have ge_nb1 : n0 ≤ nb1 := by have := z4; omega
  have gx_nb1 : h0.size ≤ nb1 := by have := KP.1; omega
  have E := E.ext E5
  have i_cl := i_cl.ext E5
  have i_co := i_co.ext E5
  have i_io := i_io.ext E5
  have i_de := i_de.ext E5
  have i_ha := i_ha.ext E5
  have f_m := f_m.ext E5
  have f_cl := f_cl.ext E5
  have f_co := f_co.ext E5
  have f_si := f_si.ext E5
  have f_pu := f_pu.ext E5
  have f_be := f_be.ext E5
  have f_en := f_en.ext E5
  have f_fe := f_fe.ext E5
  have f_fp := f_fp.ext E5
  have f_ix := f_ix.ext E5
  have f_g := f_g.ext E5
  have SD := SD.ext E5
  have z5 : n0 ≤ h5.size := Nat.le_trans z4 E5.1
  have KP := KP.ext E5
  have nb1_1 := Dnb1 (Or.inr (hw _ (List.mem_of_getElem? (i := 36) rfl))) (ty := (.object "java/util/Map")) (by decide)
  have nb1_2 := Dnb1 (Or.inr (hw _ (List.mem_of_getElem? (i := 62) rfl))) (ty := (.object "java/util/List")) (by decide)
  refine W.dup X5 hx 20 (hb hby d2_19) rfl rfl ?_
  have EN0 := Enb1
  refine W.callIR X5 hx hZ 23 2 nb1 [] rfl hown (hw _ (List.mem_of_getElem? (i := 15) rfl)) (hw _ (List.mem_of_getElem? (i := 16) rfl)) (hw _ (List.mem_of_getElem? (i := 14) rfl)) (hw _ (List.mem_of_getElem? (i := 17) rfl)) (by decide) pd_0 rfl e5 (rmNB l Z a0 hw nb1 dv h5 n0 z5 Enb1 nb1_1 nb1_2 SD ge_nb1) (hb hby d2_20) (by rw [hml]; rfl) rfl rfl (by decide) (by decide) (by decide) (by decide) rfl ?_
  rintro v6 T6 L6 X6 ⟨rfl, N6, K6⟩
  have SD := Sta.keepE SD K6 EN0
  have E := E.keep K6
  have i_cl := i_cl.keep K6 (ninS ne_o_nb1 nin0)
  have i_co := i_co.keep K6 (ninS ne_o_nb1 nin0)
  have i_io := i_io.keep K6 (ninS ne_o_nb1 nin0)
  have i_de := i_de.keep K6 (ninS ne_o_nb1 nin0)
  have i_ha := i_ha.keep K6 (ninS ne_o_nb1 nin0)
  have f_m := f_m.keep K6 (ninS ne_o_nb1 nin0)
  have f_cl := f_cl.keep K6 (ninS ne_o_nb1 nin0)
  have f_co := f_co.keep K6 (ninS ne_o_nb1 nin0)
  have f_si := f_si.keep K6 (ninS ne_o_nb1 nin0)
  have f_pu := f_pu.keep K6 (ninS ne_o_nb1 nin0)
  have f_be := f_be.keep K6 (ninS ne_o_nb1 nin0)
  have f_en := f_en.keep K6 (ninS ne_o_nb1 nin0)
  have f_fe := f_fe.keep K6 (ninS ne_o_nb1 nin0)
  have f_fp := f_fp.keep K6 (ninS ne_o_nb1 nin0)
  have f_ix := f_ix.keep K6 (ninS ne_o_nb1 nin0)
  have f_g := f_g.keep K6 (ninS ne_o_nb1 nin0)
  have z6 : n0 ≤ T6.heap.size := Nat.le_trans z5 K6.1
  have KP := KP.trans K6 (allS (Or.inr gx_nb1) all0)
  refine W.putF X6 hx hZ 26 hown (hw _ (List.mem_of_getElem? (i := 65) rfl)) Via.refl rfl i_cl E (Or.inr ⟨(hw _ (List.mem_of_getElem? (i := 66) rfl)), rfl, hnm⟩) (hw _ (List.mem_of_getElem? (i := 1) rfl)) (ty := (.object "com/example/margrave/margrave/engine/Holdings$Numbering")) (by decide) rfl rfl (hb hby d2_23) rfl ?_
  intro T7 h7 X7 e7 W7 i_cl
  have E := E.wr W7
  have i_co := Fld.other W7 i_co (Or.inr (slot_ne (Or.inr (hw _ (List.mem_of_getElem? (i := 68) rfl))) (Or.inr (hw _ (List.mem_of_getElem? (i := 66) rfl))) (by decide) (t := (.object "com/example/margrave/margrave/engine/Holdings$Numbering")) (t' := (.object "com/example/margrave/margrave/engine/Holdings$Numbering")) (by decide) (by decide)))
  have i_io := Fld.other W7 i_io (Or.inr (slot_ne (Or.inl (hw _ (List.mem_of_getElem? (i := 70) rfl))) (Or.inr (hw _ (List.mem_of_getElem? (i := 66) rfl))) (by decide) (t := .boolean) (t' := (.object "com/example/margrave/margrave/engine/Holdings$Numbering")) (by decide) (by decide)))
  have i_de := Fld.other W7 i_de (Or.inr (slot_ne (Or.inr (hw _ (List.mem_of_getElem? (i := 72) rfl))) (Or.inr (hw _ (List.mem_of_getElem? (i := 66) rfl))) (by decide) (t := .boolean) (t' := (.object "com/example/margrave/margrave/engine/Holdings$Numbering")) (by decide) (by decide)))
  have i_ha := Fld.other W7 i_ha (Or.inr (slot_ne (Or.inl (hw _ (List.mem_of_getElem? (i := 76) rfl))) (Or.inr (hw _ (List.mem_of_getElem? (i := 66) rfl))) (by decide) (t := (.object "java/util/function/LongBinaryOperator")) (t' := (.object "com/example/margrave/margrave/engine/Holdings$Numbering")) (by decide) (by decide)))
  have f_m := Fld.other W7 f_m (Or.inr (slot_ne (Or.inl (hw _ (List.mem_of_getElem? (i := 87) rfl))) (Or.inr (hw _ (List.mem_of_getElem? (i := 66) rfl))) (by decide) (t := (.array .int)) (t' := (.object "com/example/margrave/margrave/engine/Holdings$Numbering")) (by decide) (by decide)))
  have f_cl := Fld.other W7 f_cl (Or.inr (slot_ne (Or.inl (hw _ (List.mem_of_getElem? (i := 89) rfl))) (Or.inr (hw _ (List.mem_of_getElem? (i := 66) rfl))) (by decide) (t := (.array .int)) (t' := (.object "com/example/margrave/margrave/engine/Holdings$Numbering")) (by decide) (by decide)))
  have f_co := Fld.other W7 f_co (Or.inr (slot_ne (Or.inl (hw _ (List.mem_of_getElem? (i := 91) rfl))) (Or.inr (hw _ (List.mem_of_getElem? (i := 66) rfl))) (by decide) (t := (.array .int)) (t' := (.object "com/example/margrave/margrave/engine/Holdings$Numbering")) (by decide) (by decide)))
  have f_si := Fld.other W7 f_si (Or.inr (slot_ne (Or.inl (hw _ (List.mem_of_getElem? (i := 94) rfl))) (Or.inr (hw _ (List.mem_of_getElem? (i := 66) rfl))) (by decide) (t := (.array .byte)) (t' := (.object "com/example/margrave/margrave/engine/Holdings$Numbering")) (by decide) (by decide)))
  have f_pu := Fld.other W7 f_pu (Or.inr (slot_ne (Or.inl (hw _ (List.mem_of_getElem? (i := 96) rfl))) (Or.inr (hw _ (List.mem_of_getElem? (i := 66) rfl))) (by decide) (t := (.array .byte)) (t' := (.object "com/example/margrave/margrave/engine/Holdings$Numbering")) (by decide) (by decide)))
  have f_be := Fld.other W7 f_be (Or.inr (slot_ne (Or.inl (hw _ (List.mem_of_getElem? (i := 99) rfl))) (Or.inr (hw _ (List.mem_of_getElem? (i := 66) rfl))) (by decide) (t := (.array .long)) (t' := (.object "com/example/margrave/margrave/engine/Holdings$Numbering")) (by decide) (by decide)))
  have f_en := Fld.other W7 f_en (Or.inr (slot_ne (Or.inl (hw _ (List.mem_of_getElem? (i := 101) rfl))) (Or.inr (hw _ (List.mem_of_getElem? (i := 66) rfl))) (by decide) (t := (.array (.object "com/example/margrave/margrave/engine/Holding"))) (t' := (.object "com/example/margrave/margrave/engine/Holdings$Numbering")) (by decide) (by decide)))
  have f_fe := Fld.other W7 f_fe (Or.inr (slot_ne (Or.inl (hw _ (List.mem_of_getElem? (i := 103) rfl))) (Or.inr (hw _ (List.mem_of_getElem? (i := 66) rfl))) (by decide) (t := (.array .long)) (t' := (.object "com/example/margrave/margrave/engine/Holdings$Numbering")) (by decide) (by decide)))
  have f_fp := Fld.other W7 f_fp (Or.inr (slot_ne (Or.inl (hw _ (List.mem_of_getElem? (i := 105) rfl))) (Or.inr (hw _ (List.mem_of_getElem? (i := 66) rfl))) (by decide) (t := (.array (.object "java/math/BigDecimal"))) (t' := (.object "com/example/margrave/margrave/engine/Holdings$Numbering")) (by decide) (by decide)))
  have f_ix := Fld.other W7 f_ix (Or.inr (slot_ne (Or.inl (hw _ (List.mem_of_getElem? (i := 107) rfl))) (Or.inr (hw _ (List.mem_of_getElem? (i := 66) rfl))) (by decide) (t := (.object "com/example/margrave/margrave/engine/HashIndex")) (t' := (.object "com/example/margrave/margrave/engine/Holdings$Numbering")) (by decide) (by decide)))
  have f_g := Fld.other W7 f_g (Or.inr (slot_ne (Or.inl (hw _ (List.mem_of_getElem? (i := 74) rfl))) (Or.inr (hw _ (List.mem_of_getElem? (i := 66) rfl))) (by decide) (t := (.object "com/example/margrave/margrave/engine/LotGroups")) (t' := (.object "com/example/margrave/margrave/engine/Holdings$Numbering")) (by decide) (by decide)))
  have SD := SD.wr W7
  have z7 : n0 ≤ h7.size := by rw [W7.size]; exact z6
  have KP := KP.wr W7 (by first | (refine Or.inl ?_; simp; done) | exact Or.inr gx_o)
  refine W.aloadN X7 hx 27 (hb hby d2_26) rfl rfl rfl ?_
  refine W.newO X7 hx hZ 30 hown (hw _ (List.mem_of_getElem? (i := 12) rfl)) (hw _ (List.mem_of_getElem? (i := 13) rfl)) (hw _ (List.mem_of_getElem? (i := 14) rfl)) e7 (hb hby d2_27) (by decide) (by decide) rfl ?_
  intro T8 h8 nb2 q8 X8 e8 E8 Enb2 Dnb2
  have ne_o_nb2 : o ≠ nb2 := fun q => by have := E.lt; rw [q, q8] at this; exact Nat.lt_irrefl _ this
  have ge_nb2 : n0 ≤ nb2 := by have := z7; omega
  have gx_nb2 : h0.size ≤ nb2 := by have := KP.1; omega
  have E := E.ext E8
  have i_co := i_co.ext E8
  have i_io := i_io.ext E8
  have i_de := i_de.ext E8
  have i_ha := i_ha.ext E8
  have f_m := f_m.ext E8
  have f_cl := f_cl.ext E8
  have f_co := f_co.ext E8
  have f_si := f_si.ext E8
  have f_pu := f_pu.ext E8
  have f_be := f_be.ext E8
  have f_en := f_en.ext E8
  have f_fe := f_fe.ext E8
  have f_fp := f_fp.ext E8
  have f_ix := f_ix.ext E8
  have f_g := f_g.ext E8
  have SD := SD.ext E8
  have z8 : n0 ≤ h8.size := Nat.le_trans z7 E8.1
  have KP := KP.ext E8
  have nb2_1 := Dnb2 (Or.inr (hw _ (List.mem_of_getElem? (i := 36) rfl))) (ty := (.object "java/util/Map")) (by decide)
  have nb2_2 := Dnb2 (Or.inr (hw _ (List.mem_of_getElem? (i := 62) rfl))) (ty := (.object "java/util/List")) (by decide)
  refine W.dup X8 hx 31 (hb hby d2_30) rfl rfl ?_
  have EN0 := Enb2
  refine W.callIR X8 hx hZ 34 2 nb2 [] rfl hown (hw _ (List.mem_of_getElem? (i := 15) rfl)) (hw _ (List.mem_of_getElem? (i := 16) rfl)) (hw _ (List.mem_of_getElem? (i := 14) rfl)) (hw _ (List.mem_of_getElem? (i := 17) rfl)) (by decide) pd_0 rfl e8 (rmNB l Z a0 hw nb2 dv h8 n0 z8 Enb2 nb2_1 nb2_2 SD ge_nb2) (hb hby d2_31) (by rw [hml]; rfl) rfl rfl (by decide) (by decide) (by decide) (by decide) rfl ?_
  rintro v9 T9 L9 X9 ⟨rfl, N9, K9⟩
  have SD := Sta.keepE SD K9 EN0
  have E := E.keep K9
  have i_co := i_co.keep K9 (ninS ne_o_nb2 nin0)
  have i_io := i_io.keep K9 (ninS ne_o_nb2 nin0)
  have i_de := i_de.keep K9 (ninS ne_o_nb2 nin0)
  have i_ha := i_ha.keep K9 (ninS ne_o_nb2 nin0)
  have f_m := f_m.keep K9 (ninS ne_o_nb2 nin0)
  have f_cl := f_cl.keep K9 (ninS ne_o_nb2 nin0)
  have f_co := f_co.keep K9 (ninS ne_o_nb2 nin0)
  have f_si := f_si.keep K9 (ninS ne_o_nb2 nin0)
  have f_pu := f_pu.keep K9 (ninS ne_o_nb2 nin0)
  have f_be := f_be.keep K9 (ninS ne_o_nb2 nin0)
  have f_en := f_en.keep K9 (ninS ne_o_nb2 nin0)
  have f_fe := f_fe.keep K9 (ninS ne_o_nb2 nin0)
  have f_fp := f_fp.keep K9 (ninS ne_o_nb2 nin0)
  have f_ix := f_ix.keep K9 (ninS ne_o_nb2 nin0)
  have f_g := f_g.keep K9 (ninS ne_o_nb2 nin0)
  have z9 : n0 ≤ T9.heap.size := Nat.le_trans z8 K9.1
  have KP := KP.trans K9 (allS (Or.inr gx_nb2) all0)
  refine W.putF X9 hx hZ 37 hown (hw _ (List.mem_of_getElem? (i := 67) rfl)) Via.refl rfl i_co E (Or.inr ⟨(hw _ (List.mem_of_getElem? (i := 68) rfl)), rfl, hnm⟩) (hw _ (List.mem_of_getElem? (i := 1) rfl)) (ty := (.object "com/example/margrave/margrave/engine/Holdings$Numbering")) (by decide) rfl rfl (hb hby d2_34) rfl ?_
  intro T10 h10 X10 e10 W10 i_co
  have E := E.wr W10
  have i_io := Fld.other W10 i_io (Or.inr (slot_ne (Or.inl (hw _ (List.mem_of_getElem? (i := 70) rfl))) (Or.inr (hw _ (List.mem_of_getElem? (i := 68) rfl))) (by decide) (t := .boolean) (t' := (.object "com/example/margrave/margrave/engine/Holdings$Numbering")) (by decide) (by decide)))
  have i_de := Fld.other W10 i_de (Or.inr (slot_ne (Or.inr (hw _ (List.mem_of_getElem? (i := 72) rfl))) (Or.inr (hw _ (List.mem_of_getElem? (i := 68) rfl))) (by decide) (t := .boolean) (t' := (.object "com/example/margrave/margrave/engine/Holdings$Numbering")) (by decide) (by decide)))
  have i_ha := Fld.other W10 i_ha (Or.inr (slot_ne (Or.inl (hw _ (List.mem_of_getElem? (i := 76) rfl))) (Or.inr (hw _ (List.mem_of_getElem? (i := 68) rfl))) (by decide) (t := (.object "java/util/function/LongBinaryOperator")) (t' := (.object "com/example/margrave/margrave/engine/Holdings$Numbering")) (by decide) (by decide)))
  have f_m := Fld.other W10 f_m (Or.inr (slot_ne (Or.inl (hw _ (List.mem_of_getElem? (i := 87) rfl))) (Or.inr (hw _ (List.mem_of_getElem? (i := 68) rfl))) (by decide) (t := (.array .int)) (t' := (.object "com/example/margrave/margrave/engine/Holdings$Numbering")) (by decide) (by decide)))
  have f_cl := Fld.other W10 f_cl (Or.inr (slot_ne (Or.inl (hw _ (List.mem_of_getElem? (i := 89) rfl))) (Or.inr (hw _ (List.mem_of_getElem? (i := 68) rfl))) (by decide) (t := (.array .int)) (t' := (.object "com/example/margrave/margrave/engine/Holdings$Numbering")) (by decide) (by decide)))
  have f_co := Fld.other W10 f_co (Or.inr (slot_ne (Or.inl (hw _ (List.mem_of_getElem? (i := 91) rfl))) (Or.inr (hw _ (List.mem_of_getElem? (i := 68) rfl))) (by decide) (t := (.array .int)) (t' := (.object "com/example/margrave/margrave/engine/Holdings$Numbering")) (by decide) (by decide)))
  have f_si := Fld.other W10 f_si (Or.inr (slot_ne (Or.inl (hw _ (List.mem_of_getElem? (i := 94) rfl))) (Or.inr (hw _ (List.mem_of_getElem? (i := 68) rfl))) (by decide) (t := (.array .byte)) (t' := (.object "com/example/margrave/margrave/engine/Holdings$Numbering")) (by decide) (by decide)))
  have f_pu := Fld.other W10 f_pu (Or.inr (slot_ne (Or.inl (hw _ (List.mem_of_getElem? (i := 96) rfl))) (Or.inr (hw _ (List.mem_of_getElem? (i := 68) rfl))) (by decide) (t := (.array .byte)) (t' := (.object "com/example/margrave/margrave/engine/Holdings$Numbering")) (by decide) (by decide)))
  have f_be := Fld.other W10 f_be (Or.inr (slot_ne (Or.inl (hw _ (List.mem_of_getElem? (i := 99) rfl))) (Or.inr (hw _ (List.mem_of_getElem? (i := 68) rfl))) (by decide) (t := (.array .long)) (t' := (.object "com/example/margrave/margrave/engine/Holdings$Numbering")) (by decide) (by decide)))
  have f_en := Fld.other W10 f_en (Or.inr (slot_ne (Or.inl (hw _ (List.mem_of_getElem? (i := 101) rfl))) (Or.inr (hw _ (List.mem_of_getElem? (i := 68) rfl))) (by decide) (t := (.array (.object "com/example/margrave/margrave/engine/Holding"))) (t' := (.object "com/example/margrave/margrave/engine/Holdings$Numbering")) (by decide) (by decide)))
  have f_fe := Fld.other W10 f_fe (Or.inr (slot_ne (Or.inl (hw _ (List.mem_of_getElem? (i := 103) rfl))) (Or.inr (hw _ (List.mem_of_getElem? (i := 68) rfl))) (by decide) (t := (.array .long)) (t' := (.object "com/example/margrave/margrave/engine/Holdings$Numbering")) (by decide) (by decide)))
  have f_fp := Fld.other W10 f_fp (Or.inr (slot_ne (Or.inl (hw _ (List.mem_of_getElem? (i := 105) rfl))) (Or.inr (hw _ (List.mem_of_getElem? (i := 68) rfl))) (by decide) (t := (.array (.object "java/math/BigDecimal"))) (t' := (.object "com/example/margrave/margrave/engine/Holdings$Numbering")) (by decide) (by decide)))
  have f_ix := Fld.other W10 f_ix (Or.inr (slot_ne (Or.inl (hw _ (List.mem_of_getElem? (i := 107) rfl))) (Or.inr (hw _ (List.mem_of_getElem? (i := 68) rfl))) (by decide) (t := (.object "com/example/margrave/margrave/engine/HashIndex")) (t' := (.object "com/example/margrave/margrave/engine/Holdings$Numbering")) (by decide) (by decide)))
  have f_g := Fld.other W10 f_g (Or.inr (slot_ne (Or.inl (hw _ (List.mem_of_getElem? (i := 74) rfl))) (Or.inr (hw _ (List.mem_of_getElem? (i := 68) rfl))) (by decide) (t := (.object "com/example/margrave/margrave/engine/LotGroups")) (t' := (.object "com/example/margrave/margrave/engine/Holdings$Numbering")) (by decide) (by decide)))
  have SD := SD.wr W10
  have z10 : n0 ≤ h10.size := by rw [W10.size]; exact z9
  have KP := KP.wr W10 (by first | (refine Or.inl ?_; simp; done) | exact Or.inr gx_o)
  refine W.aloadN X10 hx 38 (hb hby d2_37) rfl rfl rfl ?_
  refine W.iconst X10 hx 39 (1 : Int32) (hb hby d2_38) rfl rfl ?_
  refine W.putF X10 hx hZ 42 hown (hw _ (List.mem_of_getElem? (i := 69) rfl)) Via.refl e10 i_io E (Or.inl (hw _ (List.mem_of_getElem? (i := 70) rfl))) (hw _ (List.mem_of_getElem? (i := 1) rfl)) (ty := .boolean) (by decide) rfl rfl (hb hby d2_39) rfl ?_
  intro T11 h11 X11 e11 W11 i_io
  have E := E.wr W11
  have i_de := Fld.other W11 i_de (Or.inr (slot_ne (Or.inr (hw _ (List.mem_of_getElem? (i := 72) rfl))) (Or.inl (hw _ (List.mem_of_getElem? (i := 70) rfl))) (by decide) (t := .boolean) (t' := .boolean) (by decide) (by decide)))
  have i_ha := Fld.other W11 i_ha (Or.inr (slot_ne (Or.inl (hw _ (List.mem_of_getElem? (i := 76) rfl))) (Or.inl (hw _ (List.mem_of_getElem? (i := 70) rfl))) (by decide) (t := (.object "java/util/function/LongBinaryOperator")) (t' := .boolean) (by decide) (by decide)))
  have f_m := Fld.other W11 f_m (Or.inr (slot_ne (Or.inl (hw _ (List.mem_of_getElem? (i := 87) rfl))) (Or.inl (hw _ (List.mem_of_getElem? (i := 70) rfl))) (by decide) (t := (.array .int)) (t' := .boolean) (by decide) (by decide)))
  have f_cl := Fld.other W11 f_cl (Or.inr (slot_ne (Or.inl (hw _ (List.mem_of_getElem? (i := 89) rfl))) (Or.inl (hw _ (List.mem_of_getElem? (i := 70) rfl))) (by decide) (t := (.array .int)) (t' := .boolean) (by decide) (by decide)))
  have f_co := Fld.other W11 f_co (Or.inr (slot_ne (Or.inl (hw _ (List.mem_of_getElem? (i := 91) rfl))) (Or.inl (hw _ (List.mem_of_getElem? (i := 70) rfl))) (by decide) (t := (.array .int)) (t' := .boolean) (by decide) (by decide)))
  have f_si := Fld.other W11 f_si (Or.inr (slot_ne (Or.inl (hw _ (List.mem_of_getElem? (i := 94) rfl))) (Or.inl (hw _ (List.mem_of_getElem? (i := 70) rfl))) (by decide) (t := (.array .byte)) (t' := .boolean) (by decide) (by decide)))
  have f_pu := Fld.other W11 f_pu (Or.inr (slot_ne (Or.inl (hw _ (List.mem_of_getElem? (i := 96) rfl))) (Or.inl (hw _ (List.mem_of_getElem? (i := 70) rfl))) (by decide) (t := (.array .byte)) (t' := .boolean) (by decide) (by decide)))
  have f_be := Fld.other W11 f_be (Or.inr (slot_ne (Or.inl (hw _ (List.mem_of_getElem? (i := 99) rfl))) (Or.inl (hw _ (List.mem_of_getElem? (i := 70) rfl))) (by decide) (t := (.array .long)) (t' := .boolean) (by decide) (by decide)))
  have f_en := Fld.other W11 f_en (Or.inr (slot_ne (Or.inl (hw _ (List.mem_of_getElem? (i := 101) rfl))) (Or.inl (hw _ (List.mem_of_getElem? (i := 70) rfl))) (by decide) (t := (.array (.object "com/example/margrave/margrave/engine/Holding"))) (t' := .boolean) (by decide) (by decide)))
  have f_fe := Fld.other W11 f_fe (Or.inr (slot_ne (Or.inl (hw _ (List.mem_of_getElem? (i := 103) rfl))) (Or.inl (hw _ (List.mem_of_getElem? (i := 70) rfl))) (by decide) (t := (.array .long)) (t' := .boolean) (by decide) (by decide)))
  have f_fp := Fld.other W11 f_fp (Or.inr (slot_ne (Or.inl (hw _ (List.mem_of_getElem? (i := 105) rfl))) (Or.inl (hw _ (List.mem_of_getElem? (i := 70) rfl))) (by decide) (t := (.array (.object "java/math/BigDecimal"))) (t' := .boolean) (by decide) (by decide)))
  have f_ix := Fld.other W11 f_ix (Or.inr (slot_ne (Or.inl (hw _ (List.mem_of_getElem? (i := 107) rfl))) (Or.inl (hw _ (List.mem_of_getElem? (i := 70) rfl))) (by decide) (t := (.object "com/example/margrave/margrave/engine/HashIndex")) (t' := .boolean) (by decide) (by decide)))
  have f_g := Fld.other W11 f_g (Or.inr (slot_ne (Or.inl (hw _ (List.mem_of_getElem? (i := 74) rfl))) (Or.inl (hw _ (List.mem_of_getElem? (i := 70) rfl))) (by decide) (t := (.object "com/example/margrave/margrave/engine/LotGroups")) (t' := .boolean) (by decide) (by decide)))
  have z11 : n0 ≤ h11.size := by rw [W11.size]; exact z10
  have KP := KP.wr W11 (by first | (refine Or.inl ?_; simp; done) | exact Or.inr gx_o)
  refine W.aloadN X11 hx 43 (hb hby d2_42) rfl rfl rfl ?_
  refine W.aloadN X11 hx 44 (hb hby d2_43) rfl rfl rfl ?_
  refine W.nullN X11 hx 51 (hb hby d2_44) (by decide) (by decide) ?_
  refine W.iconst X11 hx 52 (0 : Int32) (hb hby d2_51) rfl rfl ?_
  refine W.putF X11 hx hZ 55 hown (hw _ (List.mem_of_getElem? (i := 71) rfl)) Via.refl e11 i_de E (Or.inr ⟨(hw _ (List.mem_of_getElem? (i := 72) rfl)), rfl, hnm⟩) (hw _ (List.mem_of_getElem? (i := 1) rfl)) (ty := .boolean) (by decide) rfl rfl (hb hby d2_52) rfl ?_
  intro T12 h12 X12 e12 W12 i_de
  have E := E.wr W12
  have i_ha := Fld.other W12 i_ha (Or.inr (slot_ne (Or.inl (hw _ (List.mem_of_getElem? (i := 76) rfl))) (Or.inr (hw _ (List.mem_of_getElem? (i := 72) rfl))) (by decide) (t := (.object "java/util/function/LongBinaryOperator")) (t' := .boolean) (by decide) (by decide)))
  have f_m := Fld.other W12 f_m (Or.inr (slot_ne (Or.inl (hw _ (List.mem_of_getElem? (i := 87) rfl))) (Or.inr (hw _ (List.mem_of_getElem? (i := 72) rfl))) (by decide) (t := (.array .int)) (t' := .boolean) (by decide) (by decide)))
  have f_cl := Fld.other W12 f_cl (Or.inr (slot_ne (Or.inl (hw _ (List.mem_of_getElem? (i := 89) rfl))) (Or.inr (hw _ (List.mem_of_getElem? (i := 72) rfl))) (by decide) (t := (.array .int)) (t' := .boolean) (by decide) (by decide)))
  have f_co := Fld.other W12 f_co (Or.inr (slot_ne (Or.inl (hw _ (List.mem_of_getElem? (i := 91) rfl))) (Or.inr (hw _ (List.mem_of_getElem? (i := 72) rfl))) (by decide) (t := (.array .int)) (t' := .boolean) (by decide) (by decide)))
  have f_si := Fld.other W12 f_si (Or.inr (slot_ne (Or.inl (hw _ (List.mem_of_getElem? (i := 94) rfl))) (Or.inr (hw _ (List.mem_of_getElem? (i := 72) rfl))) (by decide) (t := (.array .byte)) (t' := .boolean) (by decide) (by decide)))
  have f_pu := Fld.other W12 f_pu (Or.inr (slot_ne (Or.inl (hw _ (List.mem_of_getElem? (i := 96) rfl))) (Or.inr (hw _ (List.mem_of_getElem? (i := 72) rfl))) (by decide) (t := (.array .byte)) (t' := .boolean) (by decide) (by decide)))
  have f_be := Fld.other W12 f_be (Or.inr (slot_ne (Or.inl (hw _ (List.mem_of_getElem? (i := 99) rfl))) (Or.inr (hw _ (List.mem_of_getElem? (i := 72) rfl))) (by decide) (t := (.array .long)) (t' := .boolean) (by decide) (by decide)))
  have f_en := Fld.other W12 f_en (Or.inr (slot_ne (Or.inl (hw _ (List.mem_of_getElem? (i := 101) rfl))) (Or.inr (hw _ (List.mem_of_getElem? (i := 72) rfl))) (by decide) (t := (.array (.object "com/example/margrave/margrave/engine/Holding"))) (t' := .boolean) (by decide) (by decide)))
  have f_fe := Fld.other W12 f_fe (Or.inr (slot_ne (Or.inl (hw _ (List.mem_of_getElem? (i := 103) rfl))) (Or.inr (hw _ (List.mem_of_getElem? (i := 72) rfl))) (by decide) (t := (.array .long)) (t' := .boolean) (by decide) (by decide)))
  have f_fp := Fld.other W12 f_fp (Or.inr (slot_ne (Or.inl (hw _ (List.mem_of_getElem? (i := 105) rfl))) (Or.inr (hw _ (List.mem_of_getElem? (i := 72) rfl))) (by decide) (t := (.array (.object "java/math/BigDecimal"))) (t' := .boolean) (by decide) (by decide)))
  have f_ix := Fld.other W12 f_ix (Or.inr (slot_ne (Or.inl (hw _ (List.mem_of_getElem? (i := 107) rfl))) (Or.inr (hw _ (List.mem_of_getElem? (i := 72) rfl))) (by decide) (t := (.object "com/example/margrave/margrave/engine/HashIndex")) (t' := .boolean) (by decide) (by decide)))
  have f_g := Fld.other W12 f_g (Or.inr (slot_ne (Or.inl (hw _ (List.mem_of_getElem? (i := 74) rfl))) (Or.inr (hw _ (List.mem_of_getElem? (i := 72) rfl))) (by decide) (t := (.object "com/example/margrave/margrave/engine/LotGroups")) (t' := .boolean) (by decide) (by decide)))
  have z12 : n0 ≤ h12.size := by rw [W12.size]; exact z11
  have KP := KP.wr W12 (by first | (refine Or.inl ?_; simp; done) | exact Or.inr gx_o)
  refine W.aloadN X12 hx 56 (hb hby d2_55) rfl rfl rfl ?_
  refine W.aloadN X12 hx 57 (hb hby d2_56) rfl rfl rfl ?_
  refine W.putF X12 hx hZ 60 hown (hw _ (List.mem_of_getElem? (i := 73) rfl)) Via.refl e12 f_g E (Or.inl (hw _ (List.mem_of_getElem? (i := 74) rfl))) (hw _ (List.mem_of_getElem? (i := 1) rfl)) (ty := (.object "com/example/margrave/margrave/engine/LotGroups")) (by decide) rfl rfl (hb hby d2_57) rfl ?_
  intro T13 h13 X13 e13 W13 f_g
  have E := E.wr W13
  have i_ha := Fld.other W13 i_ha (Or.inr (slot_ne (Or.inl (hw _ (List.mem_of_getElem? (i := 76) rfl))) (Or.inl (hw _ (List.mem_of_getElem? (i := 74) rfl))) (by decide) (t := (.object "java/util/function/LongBinaryOperator")) (t' := (.object "com/example/margrave/margrave/engine/LotGroups")) (by decide) (by decide)))
  have f_m := Fld.other W13 f_m (Or.inr (slot_ne (Or.inl (hw _ (List.mem_of_getElem? (i := 87) rfl))) (Or.inl (hw _ (List.mem_of_getElem? (i := 74) rfl))) (by decide) (t := (.array .int)) (t' := (.object "com/example/margrave/margrave/engine/LotGroups")) (by decide) (by decide)))
  have f_cl := Fld.other W13 f_cl (Or.inr (slot_ne (Or.inl (hw _ (List.mem_of_getElem? (i := 89) rfl))) (Or.inl (hw _ (List.mem_of_getElem? (i := 74) rfl))) (by decide) (t := (.array .int)) (t' := (.object "com/example/margrave/margrave/engine/LotGroups")) (by decide) (by decide)))
  have f_co := Fld.other W13 f_co (Or.inr (slot_ne (Or.inl (hw _ (List.mem_of_getElem? (i := 91) rfl))) (Or.inl (hw _ (List.mem_of_getElem? (i := 74) rfl))) (by decide) (t := (.array .int)) (t' := (.object "com/example/margrave/margrave/engine/LotGroups")) (by decide) (by decide)))
  have f_si := Fld.other W13 f_si (Or.inr (slot_ne (Or.inl (hw _ (List.mem_of_getElem? (i := 94) rfl))) (Or.inl (hw _ (List.mem_of_getElem? (i := 74) rfl))) (by decide) (t := (.array .byte)) (t' := (.object "com/example/margrave/margrave/engine/LotGroups")) (by decide) (by decide)))
  have f_pu := Fld.other W13 f_pu (Or.inr (slot_ne (Or.inl (hw _ (List.mem_of_getElem? (i := 96) rfl))) (Or.inl (hw _ (List.mem_of_getElem? (i := 74) rfl))) (by decide) (t := (.array .byte)) (t' := (.object "com/example/margrave/margrave/engine/LotGroups")) (by decide) (by decide)))
  have f_be := Fld.other W13 f_be (Or.inr (slot_ne (Or.inl (hw _ (List.mem_of_getElem? (i := 99) rfl))) (Or.inl (hw _ (List.mem_of_getElem? (i := 74) rfl))) (by decide) (t := (.array .long)) (t' := (.object "com/example/margrave/margrave/engine/LotGroups")) (by decide) (by decide)))
  have f_en := Fld.other W13 f_en (Or.inr (slot_ne (Or.inl (hw _ (List.mem_of_getElem? (i := 101) rfl))) (Or.inl (hw _ (List.mem_of_getElem? (i := 74) rfl))) (by decide) (t := (.array (.object "com/example/margrave/margrave/engine/Holding"))) (t' := (.object "com/example/margrave/margrave/engine/LotGroups")) (by decide) (by decide)))
  have f_fe := Fld.other W13 f_fe (Or.inr (slot_ne (Or.inl (hw _ (List.mem_of_getElem? (i := 103) rfl))) (Or.inl (hw _ (List.mem_of_getElem? (i := 74) rfl))) (by decide) (t := (.array .long)) (t' := (.object "com/example/margrave/margrave/engine/LotGroups")) (by decide) (by decide)))
  have f_fp := Fld.other W13 f_fp (Or.inr (slot_ne (Or.inl (hw _ (List.mem_of_getElem? (i := 105) rfl))) (Or.inl (hw _ (List.mem_of_getElem? (i := 74) rfl))) (by decide) (t := (.array (.object "java/math/BigDecimal"))) (t' := (.object "com/example/margrave/margrave/engine/LotGroups")) (by decide) (by decide)))
  have f_ix := Fld.other W13 f_ix (Or.inr (slot_ne (Or.inl (hw _ (List.mem_of_getElem? (i := 107) rfl))) (Or.inl (hw _ (List.mem_of_getElem? (i := 74) rfl))) (by decide) (t := (.object "com/example/margrave/margrave/engine/HashIndex")) (t' := (.object "com/example/margrave/margrave/engine/LotGroups")) (by decide) (by decide)))
  have z13 : n0 ≤ h13.size := by rw [W13.size]; exact z12
  have KP := KP.wr W13 (by first | (refine Or.inl ?_; simp; done) | exact Or.inr gx_o)
  refine W.aloadN X13 hx 61 (hb hby d2_60) rfl rfl rfl ?_
  refine W.aloadN X13 hx 62 (hb hby d2_61) rfl rfl rfl ?_
  refine W.putF X13 hx hZ 65 hown (hw _ (List.mem_of_getElem? (i := 75) rfl)) Via.refl e13 i_ha E (Or.inl (hw _ (List.mem_of_getElem? (i := 76) rfl))) (hw _ (List.mem_of_getElem? (i := 1) rfl)) (ty := (.object "java/util/function/LongBinaryOperator")) (by decide) rfl rfl (hb hby d2_62) rfl ?_
  intro T14 h14 X14 e14 W14 i_ha
  have E := E.wr W14
  have f_m := Fld.other W14 f_m (Or.inr (slot_ne (Or.inl (hw _ (List.mem_of_getElem? (i := 87) rfl))) (Or.inl (hw _ (List.mem_of_getElem? (i := 76) rfl))) (by decide) (t := (.array .int)) (t' := (.object "java/util/function/LongBinaryOperator")) (by decide) (by decide)))
  have f_cl := Fld.other W14 f_cl (Or.inr (slot_ne (Or.inl (hw _ (List.mem_of_getElem? (i := 89) rfl))) (Or.inl (hw _ (List.mem_of_getElem? (i := 76) rfl))) (by decide) (t := (.array .int)) (t' := (.object "java/util/function/LongBinaryOperator")) (by decide) (by decide)))
  have f_co := Fld.other W14 f_co (Or.inr (slot_ne (Or.inl (hw _ (List.mem_of_getElem? (i := 91) rfl))) (Or.inl (hw _ (List.mem_of_getElem? (i := 76) rfl))) (by decide) (t := (.array .int)) (t' := (.object "java/util/function/LongBinaryOperator")) (by decide) (by decide)))
  have f_si := Fld.other W14 f_si (Or.inr (slot_ne (Or.inl (hw _ (List.mem_of_getElem? (i := 94) rfl))) (Or.inl (hw _ (List.mem_of_getElem? (i := 76) rfl))) (by decide) (t := (.array .byte)) (t' := (.object "java/util/function/LongBinaryOperator")) (by decide) (by decide)))
  have f_pu := Fld.other W14 f_pu (Or.inr (slot_ne (Or.inl (hw _ (List.mem_of_getElem? (i := 96) rfl))) (Or.inl (hw _ (List.mem_of_getElem? (i := 76) rfl))) (by decide) (t := (.array .byte)) (t' := (.object "java/util/function/LongBinaryOperator")) (by decide) (by decide)))
  have f_be := Fld.other W14 f_be (Or.inr (slot_ne (Or.inl (hw _ (List.mem_of_getElem? (i := 99) rfl))) (Or.inl (hw _ (List.mem_of_getElem? (i := 76) rfl))) (by decide) (t := (.array .long)) (t' := (.object "java/util/function/LongBinaryOperator")) (by decide) (by decide)))
  have f_en := Fld.other W14 f_en (Or.inr (slot_ne (Or.inl (hw _ (List.mem_of_getElem? (i := 101) rfl))) (Or.inl (hw _ (List.mem_of_getElem? (i := 76) rfl))) (by decide) (t := (.array (.object "com/example/margrave/margrave/engine/Holding"))) (t' := (.object "java/util/function/LongBinaryOperator")) (by decide) (by decide)))
  have f_fe := Fld.other W14 f_fe (Or.inr (slot_ne (Or.inl (hw _ (List.mem_of_getElem? (i := 103) rfl))) (Or.inl (hw _ (List.mem_of_getElem? (i := 76) rfl))) (by decide) (t := (.array .long)) (t' := (.object "java/util/function/LongBinaryOperator")) (by decide) (by decide)))
  have f_fp := Fld.other W14 f_fp (Or.inr (slot_ne (Or.inl (hw _ (List.mem_of_getElem? (i := 105) rfl))) (Or.inl (hw _ (List.mem_of_getElem? (i := 76) rfl))) (by decide) (t := (.array (.object "java/math/BigDecimal"))) (t' := (.object "java/util/function/LongBinaryOperator")) (by decide) (by decide)))
  have f_ix := Fld.other W14 f_ix (Or.inr (slot_ne (Or.inl (hw _ (List.mem_of_getElem? (i := 107) rfl))) (Or.inl (hw _ (List.mem_of_getElem? (i := 76) rfl))) (by decide) (t := (.object "com/example/margrave/margrave/engine/HashIndex")) (t' := (.object "java/util/function/LongBinaryOperator")) (by decide) (by decide)))
  have f_g := Fld.other W14 f_g (Or.inr (slot_ne (Or.inl (hw _ (List.mem_of_getElem? (i := 74) rfl))) (Or.inl (hw _ (List.mem_of_getElem? (i := 76) rfl))) (by decide) (t := (.object "com/example/margrave/margrave/engine/LotGroups")) (t' := (.object "java/util/function/LongBinaryOperator")) (by decide) (by decide)))
  have z14 : n0 ≤ h14.size := by rw [W14.size]; exact z13
  have KP := KP.wr W14 (by first | (refine Or.inl ?_; simp; done) | exact Or.inr gx_o)
  refine W.aloadN X14 hx 66 (hb hby d2_65) rfl rfl rfl ?_
  refine W.iloadN X14 hx 67 (hb hby d2_66) rfl rfl ?_
  refine W.callP X14 hx hZ 70 0 o [(.int (Int32.ofNat ex))] hown (hw _ (List.mem_of_getElem? (i := 77) rfl)) (hw _ (List.mem_of_getElem? (i := 78) rfl)) (hw _ (List.mem_of_getElem? (i := 79) rfl)) (hw _ (List.mem_of_getElem? (i := 1) rfl)) (hw _ (List.mem_of_getElem? (i := 2) rfl)) (hw _ (List.mem_of_getElem? (i := 80) rfl)) (by decide) pd_2 rfl e14 E (rmMR l Z a0 hw o ex n h14 n0 z14 E f_m f_cl f_co f_si f_pu f_be f_en f_fe f_fp f_ix f_g hn hex ge_o) (hb hby d2_67) (by rw [hml]; rfl) rfl rfl (by decide) (by decide) (by decide) (by decide) rfl ?_
  rintro v15 T15 L15 X15 ⟨rfl, N15, hz15, mb, bf, O15⟩
  refine W.vret X15 hx hlk hret (hb hby d2_70) (by decide) (by decide) ?_
  exact ⟨rfl, (Fr.app (Fr.app (Fr.app (Fr.app (Fr.app (Fr.app (Fr.app (Fr.app (Fr.app (Fr.app (Fr.app (Fr.nil _) N3) (fr1 ge_o)) N6) (fr1 ge_o)) N9) (fr1 ge_o)) (fr1 ge_o)) (fr1 ge_o)) (fr1 ge_o)) (fr1 ge_o)) N15), KP.trans hz15 (allS (Or.inl (List.mem_singleton.mpr rfl)) all0), mb, bf, O15⟩
theorem d1_0 : decode prog_82_method_1_code 0 = .ok (.aload_n 0, 1) := by decide +kernel
theorem d1_1 : decode prog_82_method_1_code 1 = .ok (.iload_n 1, 1) := by decide +kernel
theorem d1_2 : decode prog_82_method_1_code 2 = .ok (.aconst_null, 1) := by decide +kernel
theorem d1_3 : decode prog_82_method_1_code 3 = .ok (.aconst_null, 1) := by decide +kernel
theorem d1_4 : decode prog_82_method_1_code 4 = .ok (.invokespecial 1, 3) := by decide +kernel
theorem d1_7 : decode prog_82_method_1_code 7 = .ok (.return_, 1) := by decide +kernel
theorem pn_1 : plainName "com/example/margrave/margrave/engine/Holdings" = true := by first | (simp [plainName, overriddenIn]; done) | decide +kernel
theorem ef_rmI1 (m : MethodId) (o : Addr) (ex : Nat) : entryFrame m #[(.ref o), (.int (Int32.ofNat ex))] 2 = mkF m 0 #[.val (.ref o), .val (.int (Int32.ofNat ex))] [] := by first | (simp [entryFrame, mkF, argsToLocals, Value.category]; done) | rfl
set_option maxRecDepth 65536 in
set_option maxHeartbeats 40000000 in
theorem rmI1 (l : Launch) (Z : State) (a0 : Array Value) (hw : ∀ d ∈ tables_1, d.before a0 Z = true) (o dv : Addr) (ex n : Nat) (h0 : Heap) (n0 : Nat) (Z0 : n0 ≤ h0.size) (E : Exa Z h0 o "com/example/margrave/margrave/engine/Holdings") (i_me : Fld Z h0 o "com/example/margrave/margrave/engine/Holdings" "members" "Lcom/example/margrave/margrave/engine/Holdings$Numbering;" .null) (i_cl : Fld Z h0 o "com/example/margrave/margrave/engine/Holdings" "clients" "Lcom/example/margrave/margrave/engine/Holdings$Numbering;" .null) (i_co : Fld Z h0 o "com/example/margrave/margrave/engine/Holdings" "contracts" "Lcom/example/margrave/margrave/engine/Holdings$Numbering;" .null) (i_io : Fld Z h0 o "com/example/margrave/margrave/engine/Holdings" "inOrder" "Z" (.int 0)) (i_de : Fld Z h0 o "com/example/margrave/margrave/engine/Holdings" "detailed" "Z" (.int 0)) (i_ha : Fld Z h0 o "com/example/margrave/margrave/engine/Holdings" "hash" "Ljava/util/function/LongBinaryOperator;" .null) (f_m : Fld Z h0 o "com/example/margrave/margrave/engine/Holdings" "member" "[I" .null) (f_cl : Fld Z h0 o "com/example/margrave/margrave/engine/Holdings" "client" "[I" .null) (f_co : Fld Z h0 o "com/example/margrave/margrave/engine/Holdings" "contract" "[I" .null) (f_si : Fld Z h0 o "com/example/margrave/margrave/engine/Holdings" "side" "[B" .null) (f_pu : Fld Z h0 o "com/example/margrave/margrave/engine/Holdings" "purpose" "[B" .null) (f_be : Fld Z h0 o "com/example/margrave/margrave/engine/Holdings" "before" "[J" .null) (f_en : Fld Z h0 o "com/example/margrave/margrave/engine/Holdings" "entries" "[Lcom/example/margrave/margrave/engine/Holding;" .null) (f_fe : Fld Z h0 o "com/example/margrave/margrave/engine/Holdings" "fees" "[J" .null) (f_fp : Fld Z h0 o "com/example/margrave/margrave/engine/Holdings" "feesPast" "[Ljava/math/BigDecimal;" .null) (f_ix : Fld Z h0 o "com/example/margrave/margrave/engine/Holdings" "index" "Lcom/example/margrave/margrave/engine/HashIndex;" .null) (f_g : Fld Z h0 o "com/example/margrave/margrave/engine/Holdings" "groups" "Lcom/example/margrave/margrave/engine/LotGroups;" .null) (SD : Sta Z h0 "java/util/ArrayList" "DEFAULTCAPACITY_EMPTY_ELEMENTDATA" "[Ljava/lang/Object;" (.ref dv)) (hn : n = if ex < 16 then 16 else ex) (hex : ex ≤ 31) (ge_o : n0 ≤ o) :
    Con l Z (⟨"com/example/margrave/margrave/engine/Holdings", "<init>", "(I)V"⟩ : MethodName) prog_82_method_1_code 2 none [] ({ frames := 6, cells := 15, slots := 231, locals := 120 } : Room) #[(.ref o), (.int (Int32.ofNat ex))] h0 (fun v h L => v = none ∧ Fr n0 L ∧ Keep h0 h [o] ∧ ∃ mb bf : Addr, HO Z h n0 o mb bf n (fun _ => 0) .null) := by
  refine Con.of (plainFor_of_name pn_1) ?_
  intro p e s m below meth c s₁ hx hby hml hown hnm hret hlk hZ X0 e0
  refine Wp.enter (ef_rmI1 m o ex) ?_
  refine W.aloadN X0 hx 1 (hb hby d1_0) rfl rfl rfl ?_
  refine W.iloadN X0 hx 2 (hb hby d1_1) rfl rfl ?_
  refine W.anull X0 hx 3 (hb hby d1_2) rfl ?_
  refine W.anull X0 hx 4 (hb hby d1_3) rfl ?_
  refine W.callI X0 hx hZ 7 0 o [(.int (Int32.ofNat ex)), .null, .null] rfl hown (hw _ (List.mem_of_getElem? (i := 6) rfl)) (hw _ (List.mem_of_getElem? (i := 7) rfl)) (hw _ (List.mem_of_getElem? (i := 2) rfl)) (hw _ (List.mem_of_getElem? (i := 8) rfl)) (by decide) pd_3 rfl e0 (rmI3 l Z a0 hw o dv ex n h0 n0 Z0 E i_me i_cl i_co i_io i_de i_ha f_m f_cl f_co f_si f_pu f_be f_en f_fe f_fp f_ix f_g SD hn hex ge_o) (hb hby d1_4) (by rw [hml]; rfl) rfl rfl (by decide) (by decide) (by decide) (by decide) rfl ?_
  rintro v1 T1 L1 X1 ⟨rfl, N1, hz1, mb, bf, O1⟩
  refine W.vret X1 hx hlk hret (hb hby d1_7) (by decide) (by decide) ?_
  exact ⟨rfl, (Fr.app (Fr.nil _) N1), hz1, mb, bf, O1⟩
theorem d14_0 : decode prog_82_method_49_code 0 = .ok (.aload_n 0, 1) := by decide +kernel
theorem d14_1 : decode prog_82_method_49_code 1 = .ok (.getfield 199, 3) := by decide +kernel
theorem d14_4 : decode prog_82_method_49_code 4 = .ok (.ifnonnull 7, 3) := by decide +kernel
theorem d14_7 : decode prog_82_method_49_code 7 = .ok (.aconst_null, 1) := by decide +kernel
theorem d14_8 : decode prog_82_method_49_code 8 = .ok (.goto 9, 3) := by decide +kernel
theorem d14_11 : decode prog_82_method_49_code 11 = .ok (.aload_n 0, 1) := by decide +kernel
theorem d14_12 : decode prog_82_method_49_code 12 = .ok (.getfield 199, 3) := by decide +kernel
theorem d14_15 : decode prog_82_method_49_code 15 = .ok (.iload_n 1, 1) := by decide +kernel
theorem d14_16 : decode prog_82_method_49_code 16 = .ok (.aaload, 1) := by decide +kernel
theorem d14_17 : decode prog_82_method_49_code 17 = .ok (.areturn, 1) := by decide +kernel
theorem pn_14 : plainName "com/example/margrave/margrave/engine/Holdings" = true := by first | (simp [plainName, overriddenIn]; done) | decide +kernel
theorem ef_rmE (m : MethodId) (o : Addr) (i : Nat) : entryFrame m #[(.ref o), (.int (Int32.ofNat i))] 2 = mkF m 0 #[.val (.ref o), .val (.int (Int32.ofNat i))] [] := by first | (simp [entryFrame, mkF, argsToLocals, Value.category]; done) | rfl
set_option maxRecDepth 65536 in
set_option maxHeartbeats 40000000 in
theorem rmE (l : Launch) (Z : State) (a0 : Array Value) (hw : ∀ d ∈ tables_1, d.before a0 Z = true) (n0 : Nat) (o mb bf : Addr) (n : Nat) (fb : Nat → Int64) (ev : Value) (g : Nat → Value) (i : Nat) (r : Value) (h0 : Heap) (O : HO Z h0 n0 o mb bf n fb ev) (HEE : HE Z h0 n0 o mb bf n g ev) (hi : i < n) (hn : n ≤ 31) (hr : g i = r) (hrr : r.isRef = true) :
    Con l Z (⟨"com/example/margrave/margrave/engine/Holdings", "entry", "(I)Lcom/example/margrave/margrave/engine/Holding;"⟩ : MethodName) prog_82_method_49_code 2 (some (.object "com/example/margrave/margrave/engine/Holding")) [] ({ frames := 0, cells := 0, slots := 0, locals := 0 } : Room) #[(.ref o), (.int (Int32.ofNat i))] h0 (fun v h L => v = some r ∧ h = h0 ∧ L = []) := by
  refine Con.of (plainFor_of_name pn_14) ?_
  intro p e s m below meth c s₁ hx hby hml hown hnm hret hlk hZ X0 e0
  refine Wp.enter (ef_rmE m o i) ?_
  obtain ⟨ge_o, ge_bf, E, f_g, f_m, f_be, f_en, f_fp, A1, A6, ne_o_mb, ne_o_bf, ne_mb_bf⟩ := id O
  rcases HEE with ⟨rfl, hg⟩ | ⟨en, rfl, ge_en, A, TA, ne_o_en, ne_mb_en, ne_bf_en⟩
  · skip
    refine W.aloadN X0 hx 1 (hb hby d14_0) rfl rfl rfl ?_
    refine W.getF X0 hx hZ 4 hown (hw _ (List.mem_of_getElem? (i := 100) rfl)) Via.refl e0 f_en (hb hby d14_1) rfl ?_
    intro T1 X1 e1
    refine W.nonnullN X1 hx 7 (hb hby d14_4) rfl ?_
    refine W.anull X1 hx 8 (hb hby d14_7) rfl ?_
    refine W.goto X1 hx 17 (hb hby d14_8) (by decide) (by decide) ?_
    have hr : r = .null := by rw [← hr]; exact hg i
    subst hr
    refine W.aret X1 hx hlk hret rfl rfl (hb hby d14_17) (by decide) (by decide) ?_
    exact ⟨rfl, e1, rfl⟩
  · skip
    refine W.aloadN X0 hx 1 (hb hby d14_0) rfl rfl rfl ?_
    refine W.getF X0 hx hZ 4 hown (hw _ (List.mem_of_getElem? (i := 100) rfl)) Via.refl e0 f_en (hb hby d14_1) rfl ?_
    intro T2 X2 e2
    refine W.nonnullR X2 hx 11 (hb hby d14_4) (by decide) (by decide) ?_
    refine W.aloadN X2 hx 12 (hb hby d14_11) rfl rfl rfl ?_
    refine W.getF X2 hx hZ 15 hown (hw _ (List.mem_of_getElem? (i := 100) rfl)) Via.refl e2 f_en (hb hby d14_12) rfl ?_
    intro T3 X3 e3
    refine W.iloadN X3 hx 16 (hb hby d14_15) rfl rfl ?_
    refine W.aaload X3 hx hZ 17 i r e3 A rfl (own_ofNat (by omega)) (by omega) hr (hb hby d14_16) rfl ?_
    refine W.aret X3 hx hlk hret rfl hrr (hb hby d14_17) (by decide) (by decide) ?_
    exact ⟨rfl, e3, rfl⟩
theorem d19_0 : decode prog_82_method_18_code 0 = .ok (.aload_n 0, 1) := by decide +kernel
theorem d19_1 : decode prog_82_method_18_code 1 = .ok (.iload_n 1, 1) := by decide +kernel
theorem d19_2 : decode prog_82_method_18_code 2 = .ok (.invokevirtual 184, 3) := by decide +kernel
theorem d19_5 : decode prog_82_method_18_code 5 = .ok (.ifnull 7, 3) := by decide +kernel
theorem d19_8 : decode prog_82_method_18_code 8 = .ok (.iconst 1, 1) := by decide +kernel
theorem d19_9 : decode prog_82_method_18_code 9 = .ok (.goto 4, 3) := by decide +kernel
theorem d19_12 : decode prog_82_method_18_code 12 = .ok (.iconst 0, 1) := by decide +kernel
theorem d19_13 : decode prog_82_method_18_code 13 = .ok (.ireturn, 1) := by decide +kernel
theorem pn_19 : plainName "com/example/margrave/margrave/engine/Holdings" = true := by first | (simp [plainName, overriddenIn]; done) | decide +kernel
theorem ef_rmT (m : MethodId) (o : Addr) (i : Nat) : entryFrame m #[(.ref o), (.int (Int32.ofNat i))] 2 = mkF m 0 #[.val (.ref o), .val (.int (Int32.ofNat i))] [] := by first | (simp [entryFrame, mkF, argsToLocals, Value.category]; done) | rfl
set_option maxRecDepth 65536 in
set_option maxHeartbeats 40000000 in
theorem rmT (l : Launch) (Z : State) (a0 : Array Value) (hw : ∀ d ∈ tables_1, d.before a0 Z = true) (n0 : Nat) (o : Addr) (n : Nat) (fb : Nat → Int64) (g : Nat → Value) (xs : Nat → Int64) (i : Nat) (r : Int32) (h0 : Heap) (J : HJ Z h0 n0 o n fb g xs) (hi : i ≤ 15) (hn : 16 ≤ n ∧ n ≤ 31) (hr : (g i = .null ∧ r = 0) ∨ ((∃ k : Addr, g i = .ref k) ∧ r = 1)) :
    Con l Z (⟨"com/example/margrave/margrave/engine/Holdings", "isTraded", "(I)Z"⟩ : MethodName) prog_82_method_18_code 2 (some .boolean) [] ({ frames := 1, cells := 0, slots := 0, locals := 20 } : Room) #[(.ref o), (.int (Int32.ofNat i))] h0 (fun v h L => v = some (.int r) ∧ h = h0 ∧ L = []) := by
  refine Con.of (plainFor_of_name pn_19) ?_
  intro p e s m below meth c s₁ hx hby hml hown hnm hret hlk hZ X0 e0
  refine Wp.enter (ef_rmT m o i) ?_
  obtain ⟨mb, bf, ev, O, HEE, S⟩ := J
  rcases hr with ⟨hr, rfl⟩ | ⟨⟨k, hr⟩, rfl⟩
  · skip
    refine W.aloadN X0 hx 1 (hb hby d19_0) rfl rfl rfl ?_
    refine W.iloadN X0 hx 2 (hb hby d19_1) rfl rfl ?_
    refine W.callP X0 hx hZ 5 0 o [(.int (Int32.ofNat i))] hown (hw _ (List.mem_of_getElem? (i := 117) rfl)) (hw _ (List.mem_of_getElem? (i := 118) rfl)) (hw _ (List.mem_of_getElem? (i := 119) rfl)) (hw _ (List.mem_of_getElem? (i := 1) rfl)) (hw _ (List.mem_of_getElem? (i := 2) rfl)) (hw _ (List.mem_of_getElem? (i := 120) rfl)) (by decide) pd_4 rfl e0 O.2.2.1 (rmE l Z a0 hw n0 o mb bf n fb ev g i .null h0 O HEE (by omega) (by omega) hr rfl) (hb hby d19_2) (by rw [hml]; rfl) rfl rfl (by decide) (by decide) (by decide) (by decide) rfl ?_
    rintro v1 T1 L1 X1 ⟨rfl, e1, rfl⟩
    refine W.nullN X1 hx 12 (hb hby d19_5) (by decide) (by decide) ?_
    refine W.iconst X1 hx 13 (0 : Int32) (hb hby d19_12) rfl rfl ?_
    refine W.nret X1 hx hlk (t := .boolean) hret (by simp) (hb hby d19_13) (by decide) (by decide) ?_
    exact ⟨rfl, e1, rfl⟩
  · skip
    refine W.aloadN X0 hx 1 (hb hby d19_0) rfl rfl rfl ?_
    refine W.iloadN X0 hx 2 (hb hby d19_1) rfl rfl ?_
    refine W.callP X0 hx hZ 5 0 o [(.int (Int32.ofNat i))] hown (hw _ (List.mem_of_getElem? (i := 117) rfl)) (hw _ (List.mem_of_getElem? (i := 118) rfl)) (hw _ (List.mem_of_getElem? (i := 119) rfl)) (hw _ (List.mem_of_getElem? (i := 1) rfl)) (hw _ (List.mem_of_getElem? (i := 2) rfl)) (hw _ (List.mem_of_getElem? (i := 120) rfl)) (by decide) pd_4 rfl e0 O.2.2.1 (rmE l Z a0 hw n0 o mb bf n fb ev g i (.ref k) h0 O HEE (by omega) (by omega) hr rfl) (hb hby d19_2) (by rw [hml]; rfl) rfl rfl (by decide) (by decide) (by decide) (by decide) rfl ?_
    rintro v2 T2 L2 X2 ⟨rfl, e2, rfl⟩
    refine W.nullR X2 hx 8 (hb hby d19_5) rfl ?_
    refine W.iconst X2 hx 9 (1 : Int32) (hb hby d19_8) rfl rfl ?_
    refine W.goto X2 hx 13 (hb hby d19_9) (by decide) (by decide) ?_
    refine W.nret X2 hx hlk (t := .boolean) hret (by simp) (hb hby d19_13) (by decide) (by decide) ?_
    exact ⟨rfl, e2, rfl⟩
theorem d21_0 : decode prog_78_method_5_code 0 = .ok (.aload_n 0, 1) := by decide +kernel
theorem d21_1 : decode prog_78_method_5_code 1 = .ok (.getfield 47, 3) := by decide +kernel
theorem d21_4 : decode prog_78_method_5_code 4 = .ok (.lreturn, 1) := by decide +kernel
theorem pn_21 : plainName "com/example/margrave/margrave/engine/Holding" = true := by first | (simp [plainName, overriddenIn]; done) | decide +kernel
theorem ef_rmHL (m : MethodId) (o : Addr) : entryFrame m #[(.ref o)] 1 = mkF m 0 #[.val (.ref o)] [] := by first | (simp [entryFrame, mkF, argsToLocals, Value.category]; done) | rfl
set_option maxRecDepth 65536 in
set_option maxHeartbeats 40000000 in
theorem rmHL (l : Launch) (Z : State) (a0 : Array Value) (hw : ∀ d ∈ tables_1, d.before a0 Z = true) (o : Addr) (x : Int64) (h0 : Heap) (I : HG Z h0 o x) :
    Con l Z (⟨"com/example/margrave/margrave/engine/Holding", "lots", "()J"⟩ : MethodName) prog_78_method_5_code 1 (some .long) [] ({ frames := 0, cells := 0, slots := 0, locals := 0 } : Room) #[(.ref o)] h0 (fun v h L => v = some (.long x) ∧ h = h0 ∧ L = []) := by
  refine Con.of (plainFor_of_name pn_21) ?_
  intro p e s m below meth c s₁ hx hby hml hown hnm hret hlk hZ X0 e0
  refine Wp.enter (ef_rmHL m o) ?_
  obtain ⟨E, F⟩ := I
  refine W.aloadN X0 hx 1 (hb hby d21_0) rfl rfl rfl ?_
  refine W.getF X0 hx hZ 4 hown (hw _ (List.mem_of_getElem? (i := 153) rfl)) Via.refl e0 F (hb hby d21_1) rfl ?_
  intro T1 X1 e1
  refine W.lret X1 hx hlk hret (hb hby d21_4) (by decide) (by decide) ?_
  exact ⟨rfl, e1, rfl⟩
theorem d20_0 : decode prog_82_method_19_code 0 = .ok (.aload_n 0, 1) := by decide +kernel
theorem d20_1 : decode prog_82_method_19_code 1 = .ok (.iload_n 1, 1) := by decide +kernel
theorem d20_2 : decode prog_82_method_19_code 2 = .ok (.invokevirtual 184, 3) := by decide +kernel
theorem d20_5 : decode prog_82_method_19_code 5 = .ok (.astore_n 2, 1) := by decide +kernel
theorem d20_6 : decode prog_82_method_19_code 6 = .ok (.aload_n 2, 1) := by decide +kernel
theorem d20_7 : decode prog_82_method_19_code 7 = .ok (.ifnonnull 12, 3) := by decide +kernel
theorem d20_10 : decode prog_82_method_19_code 10 = .ok (.aload_n 0, 1) := by decide +kernel
theorem d20_11 : decode prog_82_method_19_code 11 = .ok (.getfield 96, 3) := by decide +kernel
theorem d20_14 : decode prog_82_method_19_code 14 = .ok (.iload_n 1, 1) := by decide +kernel
theorem d20_15 : decode prog_82_method_19_code 15 = .ok (.laload, 1) := by decide +kernel
theorem d20_16 : decode prog_82_method_19_code 16 = .ok (.goto 7, 3) := by decide +kernel
theorem d20_19 : decode prog_82_method_19_code 19 = .ok (.aload_n 2, 1) := by decide +kernel
theorem d20_20 : decode prog_82_method_19_code 20 = .ok (.invokevirtual 203, 3) := by decide +kernel
theorem d20_23 : decode prog_82_method_19_code 23 = .ok (.lreturn, 1) := by decide +kernel
theorem pn_20 : plainName "com/example/margrave/margrave/engine/Holdings" = true := by first | (simp [plainName, overriddenIn]; done) | decide +kernel
theorem ef_rmL (m : MethodId) (o : Addr) (i : Nat) : entryFrame m #[(.ref o), (.int (Int32.ofNat i))] 3 = mkF m 0 #[.val (.ref o), .val (.int (Int32.ofNat i)), .unset] [] := by first | (simp [entryFrame, mkF, argsToLocals, Value.category]; done) | rfl
set_option maxRecDepth 65536 in
set_option maxHeartbeats 40000000 in
theorem rmL (l : Launch) (Z : State) (a0 : Array Value) (hw : ∀ d ∈ tables_1, d.before a0 Z = true) (n0 : Nat) (o : Addr) (n : Nat) (fb : Nat → Int64) (g : Nat → Value) (xs : Nat → Int64) (i : Nat) (r : Int64) (h0 : Heap) (J : HJ Z h0 n0 o n fb g xs) (hi : i ≤ 15) (hn : 16 ≤ n ∧ n ≤ 31) (hr : (g i = .null ∧ fb i = r) ∨ ((∃ k : Addr, g i = .ref k) ∧ xs i = r)) :
    Con l Z (⟨"com/example/margrave/margrave/engine/Holdings", "lots", "(I)J"⟩ : MethodName) prog_82_method_19_code 3 (some .long) [] ({ frames := 1, cells := 0, slots := 0, locals := 20 } : Room) #[(.ref o), (.int (Int32.ofNat i))] h0 (fun v h L => v = some (.long r) ∧ h = h0 ∧ L = []) := by
  refine Con.of (plainFor_of_name pn_20) ?_
  intro p e s m below meth c s₁ hx hby hml hown hnm hret hlk hZ X0 e0
  refine Wp.enter (ef_rmL m o i) ?_
  obtain ⟨mb, bf, ev, O, HEE, S⟩ := J
  obtain ⟨ge_o, ge_bf, E, f_g, f_m, f_be, f_en, f_fp, A1, A6, ne_o_mb, ne_o_bf, ne_mb_bf⟩ := id O
  rcases hr with ⟨hr, rfl⟩ | ⟨⟨k, hr⟩, rfl⟩
  · skip
    refine W.aloadN X0 hx 1 (hb hby d20_0) rfl rfl rfl ?_
    refine W.iloadN X0 hx 2 (hb hby d20_1) rfl rfl ?_
    refine W.callP X0 hx hZ 5 0 o [(.int (Int32.ofNat i))] hown (hw _ (List.mem_of_getElem? (i := 117) rfl)) (hw _ (List.mem_of_getElem? (i := 118) rfl)) (hw _ (List.mem_of_getElem? (i := 119) rfl)) (hw _ (List.mem_of_getElem? (i := 1) rfl)) (hw _ (List.mem_of_getElem? (i := 2) rfl)) (hw _ (List.mem_of_getElem? (i := 120) rfl)) (by decide) pd_4 rfl e0 O.2.2.1 (rmE l Z a0 hw n0 o mb bf n fb ev g i .null h0 O HEE (by omega) (by omega) hr rfl) (hb hby d20_2) (by rw [hml]; rfl) rfl rfl (by decide) (by decide) (by decide) (by decide) rfl ?_
    rintro v1 T1 L1 X1 ⟨rfl, e1, rfl⟩
    refine W.astoreN X1 hx 6 #[.val (.ref o), .val (.int (Int32.ofNat i)), .val .null] (hb hby d20_5) rfl rfl rfl ?_
    refine W.aloadN X1 hx 7 (hb hby d20_6) rfl rfl rfl ?_
    refine W.nonnullN X1 hx 10 (hb hby d20_7) rfl ?_
    refine W.aloadN X1 hx 11 (hb hby d20_10) rfl rfl rfl ?_
    refine W.getF X1 hx hZ 14 hown (hw _ (List.mem_of_getElem? (i := 98) rfl)) Via.refl e1 f_be (hb hby d20_11) rfl ?_
    intro T2 X2 e2
    refine W.iloadN X2 hx 15 (hb hby d20_14) rfl rfl ?_
    refine W.laload X2 hx hZ 16 i (.long (fb i)) e2 A6 (own_ofNat (by omega)) (by omega) rfl (hb hby d20_15) rfl ?_
    refine W.goto X2 hx 23 (hb hby d20_16) (by decide) (by decide) ?_
    refine W.lret X2 hx hlk hret (hb hby d20_23) (by decide) (by decide) ?_
    exact ⟨rfl, e2, rfl⟩
  · skip
    have I : HG Z h0 k (xs i) := by
      rcases S i (by omega) (by omega) with z | ⟨k', e', I, -⟩
      · rw [hr] at z; cases z
      · rw [hr] at e'; cases e'; exact I
    refine W.aloadN X0 hx 1 (hb hby d20_0) rfl rfl rfl ?_
    refine W.iloadN X0 hx 2 (hb hby d20_1) rfl rfl ?_
    refine W.callP X0 hx hZ 5 0 o [(.int (Int32.ofNat i))] hown (hw _ (List.mem_of_getElem? (i := 117) rfl)) (hw _ (List.mem_of_getElem? (i := 118) rfl)) (hw _ (List.mem_of_getElem? (i := 119) rfl)) (hw _ (List.mem_of_getElem? (i := 1) rfl)) (hw _ (List.mem_of_getElem? (i := 2) rfl)) (hw _ (List.mem_of_getElem? (i := 120) rfl)) (by decide) pd_4 rfl e0 O.2.2.1 (rmE l Z a0 hw n0 o mb bf n fb ev g i (.ref k) h0 O HEE (by omega) (by omega) hr rfl) (hb hby d20_2) (by rw [hml]; rfl) rfl rfl (by decide) (by decide) (by decide) (by decide) rfl ?_
    rintro v3 T3 L3 X3 ⟨rfl, e3, rfl⟩
    refine W.astoreN X3 hx 6 #[.val (.ref o), .val (.int (Int32.ofNat i)), .val (.ref k)] (hb hby d20_5) rfl rfl rfl ?_
    refine W.aloadN X3 hx 7 (hb hby d20_6) rfl rfl rfl ?_
    refine W.nonnullR X3 hx 19 (hb hby d20_7) (by decide) (by decide) ?_
    refine W.aloadN X3 hx 20 (hb hby d20_19) rfl rfl rfl ?_
    refine W.callV X3 hx hZ 23 0 k [] hown (hw _ (List.mem_of_getElem? (i := 170) rfl)) (hw _ (List.mem_of_getElem? (i := 171) rfl)) (hw _ (List.mem_of_getElem? (i := 173) rfl)) (hw _ (List.mem_of_getElem? (i := 172) rfl)) (hw _ (List.mem_of_getElem? (i := 123) rfl)) (hw _ (List.mem_of_getElem? (i := 174) rfl)) (by decide) pd_5 rfl e3 I.1 (rmHL l Z a0 hw k (xs i) h0 I) (hb hby d20_20) (by rw [hml]; rfl) rfl rfl (by decide) (by decide) (by decide) (by decide) rfl ?_
    rintro v4 T4 L4 X4 ⟨rfl, e4, rfl⟩
    refine W.lret X4 hx hlk hret (hb hby d20_23) (by decide) (by decide) ?_
    exact ⟨rfl, e4, rfl⟩
theorem d22_0 : decode prog_82_method_47_code 0 = .ok (.aload_n 0, 1) := by decide +kernel
theorem d22_1 : decode prog_82_method_47_code 1 = .ok (.getfield 199, 3) := by decide +kernel
theorem d22_4 : decode prog_82_method_47_code 4 = .ok (.ifnull 10, 3) := by decide +kernel
theorem d22_7 : decode prog_82_method_47_code 7 = .ok (.aload_n 0, 1) := by decide +kernel
theorem d22_8 : decode prog_82_method_47_code 8 = .ok (.getfield 199, 3) := by decide +kernel
theorem d22_11 : decode prog_82_method_47_code 11 = .ok (.iload_n 1, 1) := by decide +kernel
theorem d22_12 : decode prog_82_method_47_code 12 = .ok (.aconst_null, 1) := by decide +kernel
theorem d22_13 : decode prog_82_method_47_code 13 = .ok (.aastore, 1) := by decide +kernel
theorem d22_14 : decode prog_82_method_47_code 14 = .ok (.aload_n 0, 1) := by decide +kernel
theorem d22_15 : decode prog_82_method_47_code 15 = .ok (.getfield 166, 3) := by decide +kernel
theorem d22_18 : decode prog_82_method_47_code 18 = .ok (.ifnull 10, 3) := by decide +kernel
theorem d22_21 : decode prog_82_method_47_code 21 = .ok (.aload_n 0, 1) := by decide +kernel
theorem d22_22 : decode prog_82_method_47_code 22 = .ok (.getfield 166, 3) := by decide +kernel
theorem d22_25 : decode prog_82_method_47_code 25 = .ok (.iload_n 1, 1) := by decide +kernel
theorem d22_26 : decode prog_82_method_47_code 26 = .ok (.aconst_null, 1) := by decide +kernel
theorem d22_27 : decode prog_82_method_47_code 27 = .ok (.aastore, 1) := by decide +kernel
theorem d22_28 : decode prog_82_method_47_code 28 = .ok (.return_, 1) := by decide +kernel
theorem pn_22 : plainName "com/example/margrave/margrave/engine/Holdings" = true := by first | (simp [plainName, overriddenIn]; done) | decide +kernel
theorem ef_rmR (m : MethodId) (o : Addr) (i : Nat) : entryFrame m #[(.ref o), (.int (Int32.ofNat i))] 2 = mkF m 0 #[.val (.ref o), .val (.int (Int32.ofNat i))] [] := by first | (simp [entryFrame, mkF, argsToLocals, Value.category]; done) | rfl
set_option maxRecDepth 65536 in
set_option maxHeartbeats 40000000 in
theorem rmR (l : Launch) (Z : State) (a0 : Array Value) (hw : ∀ d ∈ tables_1, d.before a0 Z = true) (o : Addr) (n : Nat) (fb : Nat → Int64) (g : Nat → Value) (xs : Nat → Int64) (i : Nat) (h0 : Heap) (n0 : Nat) (Z0 : n0 ≤ h0.size) (J : HJ Z h0 n0 o n fb g xs) (hi : i ≤ 15) (hn : 16 ≤ n ∧ n ≤ 31) :
    Con l Z (⟨"com/example/margrave/margrave/engine/Holdings", "release", "(I)V"⟩ : MethodName) prog_82_method_47_code 2 none [] ({ frames := 0, cells := 0, slots := 0, locals := 0 } : Room) #[(.ref o), (.int (Int32.ofNat i))] h0 (fun v h L => v = none ∧ Fr n0 L ∧ h0.size ≤ h.size ∧ HJ Z h n0 o n fb (upd g i .null) xs) := by
  refine Con.of (plainFor_of_name pn_22) ?_
  intro p e s m below meth c s₁ hx hby hml hown hnm hret hlk hZ X0 e0
  refine Wp.enter (ef_rmR m o i) ?_
  obtain ⟨mb, bf, ev, O, HEE, S⟩ := J
  obtain ⟨ge_o, ge_bf, E, f_g, f_m, f_be, f_en, f_fp, A1, A6, ne_o_mb, ne_o_bf, ne_mb_bf⟩ := id O
  rcases HEE with ⟨rfl, hg⟩ | ⟨en, rfl, ge_en, A, TA, ne_o_en, ne_mb_en, ne_bf_en⟩
  · skip
    refine W.aloadN X0 hx 1 (hb hby d22_0) rfl rfl rfl ?_
    refine W.getF X0 hx hZ 4 hown (hw _ (List.mem_of_getElem? (i := 100) rfl)) Via.refl e0 f_en (hb hby d22_1) rfl ?_
    intro T1 X1 e1
    refine W.nullN X1 hx 14 (hb hby d22_4) (by decide) (by decide) ?_
    refine W.aloadN X1 hx 15 (hb hby d22_14) rfl rfl rfl ?_
    refine W.getF X1 hx hZ 18 hown (hw _ (List.mem_of_getElem? (i := 104) rfl)) Via.refl e1 f_fp (hb hby d22_15) rfl ?_
    intro T2 X2 e2
    refine W.nullN X2 hx 28 (hb hby d22_18) (by decide) (by decide) ?_
    refine W.vret X2 hx hlk hret (hb hby d22_28) (by decide) (by decide) ?_
    rw [e2]
    exact ⟨rfl, (Fr.nil _), Nat.le_refl _, mb, bf, .null, O, Or.inl ⟨rfl, fun j => by unfold Jvm.OwnW.upd; split <;> first | rfl | exact hg j⟩, S.rem⟩
  · skip
    refine W.aloadN X0 hx 1 (hb hby d22_0) rfl rfl rfl ?_
    refine W.getF X0 hx hZ 4 hown (hw _ (List.mem_of_getElem? (i := 100) rfl)) Via.refl e0 f_en (hb hby d22_1) rfl ?_
    intro T3 X3 e3
    refine W.nullR X3 hx 7 (hb hby d22_4) rfl ?_
    refine W.aloadN X3 hx 8 (hb hby d22_7) rfl rfl rfl ?_
    refine W.getF X3 hx hZ 11 hown (hw _ (List.mem_of_getElem? (i := 100) rfl)) Via.refl e3 f_en (hb hby d22_8) rfl ?_
    intro T4 X4 e4
    refine W.iloadN X4 hx 12 (hb hby d22_11) rfl rfl ?_
    refine W.anull X4 hx 13 (hb hby d22_12) rfl ?_
    refine W.aastore X4 hx hZ 14 i e4 A rfl (Or.inl rfl) (own_ofNat (by omega)) (by omega) (hb hby d22_13) rfl ?_
    intro T5 h5 X5 e5 W5 A
    have E := E.wr W5
    have f_g := Fld.other W5 f_g (Or.inl ne_o_en)
    have f_m := Fld.other W5 f_m (Or.inl ne_o_en)
    have f_be := Fld.other W5 f_be (Or.inl ne_o_en)
    have f_en := Fld.other W5 f_en (Or.inl ne_o_en)
    have f_fp := Fld.other W5 f_fp (Or.inl ne_o_en)
    have A1 := A1.other W5 ne_mb_en
    have A6 := A6.other W5 ne_bf_en
    have TA := TA.wr W5
    have z5 : n0 ≤ h5.size := by rw [W5.size]; exact Z0
    have K0 : Keep h0 h5 [en] := (Keep.refl _ _).wr W5 (Or.inl (List.mem_singleton.mpr rfl))
    refine W.aloadN X5 hx 15 (hb hby d22_14) rfl rfl rfl ?_
    refine W.getF X5 hx hZ 18 hown (hw _ (List.mem_of_getElem? (i := 104) rfl)) Via.refl e5 f_fp (hb hby d22_15) rfl ?_
    intro T6 X6 e6
    refine W.nullN X6 hx 28 (hb hby d22_18) (by decide) (by decide) ?_
    refine W.vret X6 hx hlk hret (hb hby d22_28) (by decide) (by decide) ?_
    rw [e6]
    exact ⟨rfl, (Fr.app (Fr.nil _) (fr1 ge_en)), K0.1, mb, bf, .ref en, ⟨ge_o, ge_bf, E, f_g, f_m, f_be, f_en, f_fp, A1, A6, ne_o_mb, ne_o_bf, ne_mb_bf⟩, Or.inr ⟨en, rfl, ge_en, A, TA, ne_o_en, ne_mb_en, ne_bf_en⟩, (S.keep K0 (fun j h9 hj k e => ninS (fun z => (S.lt h9 hj e).2.2.2 (by rw [z])) nin0)).rem⟩
theorem d18_0 : decode prog_82_method_10_code 0 = .ok (.aload_n 0, 1) := by decide +kernel
theorem d18_1 : decode prog_82_method_10_code 1 = .ok (.getfield 96, 3) := by decide +kernel
theorem d18_4 : decode prog_82_method_10_code 4 = .ok (.iload_n 1, 1) := by decide +kernel
theorem d18_5 : decode prog_82_method_10_code 5 = .ok (.dup2, 1) := by decide +kernel
theorem d18_6 : decode prog_82_method_10_code 6 = .ok (.laload, 1) := by decide +kernel
theorem d18_7 : decode prog_82_method_10_code 7 = .ok (.lload 4, 2) := by decide +kernel
theorem d18_9 : decode prog_82_method_10_code 9 = .ok (.ladd, 1) := by decide +kernel
theorem d18_10 : decode prog_82_method_10_code 10 = .ok (.lastore, 1) := by decide +kernel
theorem d18_11 : decode prog_82_method_10_code 11 = .ok (.aload_n 0, 1) := by decide +kernel
theorem d18_12 : decode prog_82_method_10_code 12 = .ok (.getfield 32, 3) := by decide +kernel
theorem d18_15 : decode prog_82_method_10_code 15 = .ok (.ifnull 15, 3) := by decide +kernel
theorem d18_18 : decode prog_82_method_10_code 18 = .ok (.aload_n 0, 1) := by decide +kernel
theorem d18_19 : decode prog_82_method_10_code 19 = .ok (.getfield 32, 3) := by decide +kernel
theorem d18_22 : decode prog_82_method_10_code 22 = .ok (.iload_n 2, 1) := by decide +kernel
theorem d18_23 : decode prog_82_method_10_code 23 = .ok (.iload_n 1, 1) := by decide +kernel
theorem d18_24 : decode prog_82_method_10_code 24 = .ok (.aload_n 3, 1) := by decide +kernel
theorem d18_25 : decode prog_82_method_10_code 25 = .ok (.lload 4, 2) := by decide +kernel
theorem d18_27 : decode prog_82_method_10_code 27 = .ok (.invokevirtual 100, 3) := by decide +kernel
theorem d18_30 : decode prog_82_method_10_code 30 = .ok (.return_, 1) := by decide +kernel
theorem pn_18 : plainName "com/example/margrave/margrave/engine/Holdings" = true := by first | (simp [plainName, overriddenIn]; done) | decide +kernel
theorem ef_rmB (m : MethodId) (o : Addr) (i : Nat) (zz : Int64) : entryFrame m #[(.ref o), (.int (Int32.ofNat i)), (.int (0 : Int32)), .null, (.long zz)] 6 = mkF m 0 #[.val (.ref o), .val (.int (Int32.ofNat i)), .val (.int (0 : Int32)), .val .null, .val (.long zz), .second] [] := by first | (simp [entryFrame, mkF, argsToLocals, Value.category]; done) | rfl
set_option maxRecDepth 65536 in
set_option maxHeartbeats 40000000 in
theorem rmB (l : Launch) (Z : State) (a0 : Array Value) (hw : ∀ d ∈ tables_1, d.before a0 Z = true) (o : Addr) (n : Nat) (fb : Nat → Int64) (g : Nat → Value) (xs : Nat → Int64) (i : Nat) (zz : Int64) (h0 : Heap) (n0 : Nat) (Z0 : n0 ≤ h0.size) (J : HJ Z h0 n0 o n fb g xs) (hi : i ≤ 15) (hn : 16 ≤ n ∧ n ≤ 31) :
    Con l Z (⟨"com/example/margrave/margrave/engine/Holdings", "holdFromBefore", "(IILcom/example/margrave/margrave/OpeningTrade;J)V"⟩ : MethodName) prog_82_method_10_code 6 none [] ({ frames := 0, cells := 0, slots := 0, locals := 0 } : Room) #[(.ref o), (.int (Int32.ofNat i)), (.int (0 : Int32)), .null, (.long zz)] h0 (fun v h L => v = none ∧ Fr n0 L ∧ h0.size ≤ h.size ∧ HJ Z h n0 o n (up fb i (fb i + zz)) g xs) := by
  refine Con.of (plainFor_of_name pn_18) ?_
  intro p e s m below meth c s₁ hx hby hml hown hnm hret hlk hZ X0 e0
  refine Wp.enter (ef_rmB m o i zz) ?_
  obtain ⟨mb, bf, ev, O, HEE, S⟩ := J
  obtain ⟨ge_o, ge_bf, E, f_g, f_m, f_be, f_en, f_fp, A1, A6, ne_o_mb, ne_o_bf, ne_mb_bf⟩ := id O
  refine W.aloadN X0 hx 1 (hb hby d18_0) rfl rfl rfl ?_
  refine W.getF X0 hx hZ 4 hown (hw _ (List.mem_of_getElem? (i := 98) rfl)) Via.refl e0 f_be (hb hby d18_1) rfl ?_
  intro T1 X1 e1
  refine W.iloadN X1 hx 5 (hb hby d18_4) rfl rfl ?_
  refine W.dup2 X1 hx 6 (hb hby d18_5) rfl rfl rfl ?_
  refine W.laload X1 hx hZ 7 i (.long (fb i)) e1 A6 (own_ofNat (by omega)) (by omega) rfl (hb hby d18_6) rfl ?_
  refine W.lload X1 hx 9 (hb hby d18_7) rfl rfl ?_
  refine W.ladd X1 hx 10 (hb hby d18_9) rfl ?_
  refine W.lastore X1 hx hZ 11 i e1 A6 (own_ofNat (by omega)) (by omega) (hb hby d18_10) rfl ?_
  intro T2 h2 X2 e2 W2 A6
  have E := E.wr W2
  have f_g := Fld.other W2 f_g (Or.inl ne_o_bf)
  have f_m := Fld.other W2 f_m (Or.inl ne_o_bf)
  have f_be := Fld.other W2 f_be (Or.inl ne_o_bf)
  have f_en := Fld.other W2 f_en (Or.inl ne_o_bf)
  have f_fp := Fld.other W2 f_fp (Or.inl ne_o_bf)
  have A1 := A1.other W2 ne_mb_bf
  have z2 : n0 ≤ h2.size := by rw [W2.size]; exact Z0
  have K0 : Keep h0 h2 [bf] := (Keep.refl _ _).wr W2 (Or.inl (List.mem_singleton.mpr rfl))
  have A7 : IArr Z h2 bf .long n (fun j => .long (up fb i (fb i + zz) j)) := A6.cong (fun j _ => by show Value.long (up fb i _ j) = Jvm.OwnW.upd _ i _ j; unfold up Jvm.OwnW.upd; split <;> rfl)
  refine W.aloadN X2 hx 12 (hb hby d18_11) rfl rfl rfl ?_
  refine W.getF X2 hx hZ 15 hown (hw _ (List.mem_of_getElem? (i := 73) rfl)) Via.refl e2 f_g (hb hby d18_12) rfl ?_
  intro T3 X3 e3
  refine W.nullN X3 hx 30 (hb hby d18_15) (by decide) (by decide) ?_
  refine W.vret X3 hx hlk hret (hb hby d18_30) (by decide) (by decide) ?_
  rw [e3]
  exact ⟨rfl, (Fr.app (Fr.nil _) (fr1 ge_bf)), K0.1, mb, bf, ev, ⟨ge_o, ge_bf, E, f_g, f_m, f_be, f_en, f_fp, A1, A7, ne_o_mb, ne_o_bf, ne_mb_bf⟩, HEE.keep K0 (fun en e => ninS (HEE.ne e).2.2.1.symm nin0), S.keep K0 (fun j h9 hj k e => ninS (S.lt h9 hj e).2.2.1 nin0)⟩
theorem d17_0 : decode prog_78_method_14_code 0 = .ok (.aload_n 0, 1) := by decide +kernel
theorem d17_1 : decode prog_78_method_14_code 1 = .ok (.getfield 33, 3) := by decide +kernel
theorem d17_4 : decode prog_78_method_14_code 4 = .ok (.aload_n 0, 1) := by decide +kernel
theorem d17_5 : decode prog_78_method_14_code 5 = .ok (.getfield 12, 3) := by decide +kernel
theorem d17_8 : decode prog_78_method_14_code 8 = .ok (.arraylength, 1) := by decide +kernel
theorem d17_9 : decode prog_78_method_14_code 9 = .ok (.if_icmp .ne 7, 3) := by decide +kernel
theorem d17_12 : decode prog_78_method_14_code 12 = .ok (.aload_n 0, 1) := by decide +kernel
theorem d17_13 : decode prog_78_method_14_code 13 = .ok (.invokevirtual 84, 3) := by decide +kernel
theorem d17_16 : decode prog_78_method_14_code 16 = .ok (.return_, 1) := by decide +kernel
theorem pn_17 : plainName "com/example/margrave/margrave/engine/Holding" = true := by first | (simp [plainName, overriddenIn]; done) | decide +kernel
theorem ef_rmM1 (m : MethodId) (k : Addr) : entryFrame m #[(.ref k)] 1 = mkF m 0 #[.val (.ref k)] [] := by first | (simp [entryFrame, mkF, argsToLocals, Value.category]; done) | rfl
set_option maxRecDepth 65536 in
set_option maxHeartbeats 40000000 in
theorem rmM1 (l : Launch) (Z : State) (a0 : Array Value) (hw : ∀ d ∈ tables_1, d.before a0 Z = true) (k qa pa : Addr) (h0 : Heap) (I : HN Z h0 k qa pa) :
    Con l Z (⟨"com/example/margrave/margrave/engine/Holding", "makeRoomForOne", "()V"⟩ : MethodName) prog_78_method_14_code 1 none [] ({ frames := 0, cells := 0, slots := 0, locals := 0 } : Room) #[(.ref k)] h0 (fun v h L => v = none ∧ h = h0 ∧ L = []) := by
  refine Con.of (plainFor_of_name pn_17) ?_
  intro p e s m below meth c s₁ hx hby hml hown hnm hret hlk hZ X0 e0
  refine Wp.enter (ef_rmM1 m k) ?_
  obtain ⟨E, h_q, h_p, h_e, h_o, h_t, Aq, Ap⟩ := id I
  refine W.aloadN X0 hx 1 (hb hby d17_0) rfl rfl rfl ?_
  refine W.getF X0 hx hZ 4 hown (hw _ (List.mem_of_getElem? (i := 145) rfl)) Via.refl e0 h_e (hb hby d17_1) rfl ?_
  intro T1 X1 e1
  refine W.aloadN X1 hx 5 (hb hby d17_4) rfl rfl rfl ?_
  refine W.getF X1 hx hZ 8 hown (hw _ (List.mem_of_getElem? (i := 128) rfl)) Via.refl e1 h_q (hb hby d17_5) rfl ?_
  intro T2 X2 e2
  refine W.arrlen X2 hx hZ 9 e2 Aq (1 : Int32) rfl (hb hby d17_8) rfl ?_
  refine W.icmpNe X2 hx 16 12 (hb hby d17_9) (by decide) (by decide) rfl (fun q => ?_) (fun q => ?_)
  · skip
    refine W.vret X2 hx hlk hret (hb hby d17_16) (by decide) (by decide) ?_
    exact ⟨rfl, e2, rfl⟩
  · exact absurd q (by decide)
theorem d16_0 : decode prog_78_method_3_code 0 = .ok (.aload_n 0, 1) := by decide +kernel
theorem d16_1 : decode prog_78_method_3_code 1 = .ok (.getfield 33, 3) := by decide +kernel
theorem d16_4 : decode prog_78_method_3_code 4 = .ok (.aload_n 0, 1) := by decide +kernel
theorem d16_5 : decode prog_78_method_3_code 5 = .ok (.getfield 37, 3) := by decide +kernel
theorem d16_8 : decode prog_78_method_3_code 8 = .ok (.if_icmp .le 39, 3) := by decide +kernel
theorem d16_11 : decode prog_78_method_3_code 11 = .ok (.aload_n 0, 1) := by decide +kernel
theorem d16_12 : decode prog_78_method_3_code 12 = .ok (.getfield 29, 3) := by decide +kernel
theorem d16_15 : decode prog_78_method_3_code 15 = .ok (.aload_n 0, 1) := by decide +kernel
theorem d16_16 : decode prog_78_method_3_code 16 = .ok (.getfield 33, 3) := by decide +kernel
theorem d16_19 : decode prog_78_method_3_code 19 = .ok (.iconst 1, 1) := by decide +kernel
theorem d16_20 : decode prog_78_method_3_code 20 = .ok (.isub, 1) := by decide +kernel
theorem d16_21 : decode prog_78_method_3_code 21 = .ok (.aaload, 1) := by decide +kernel
theorem d16_22 : decode prog_78_method_3_code 22 = .ok (.aload_n 1, 1) := by decide +kernel
theorem d16_23 : decode prog_78_method_3_code 23 = .ok (.invokevirtual 40, 3) := by decide +kernel
theorem d16_26 : decode prog_78_method_3_code 26 = .ok (.ifCond .ne 21, 3) := by decide +kernel
theorem d16_29 : decode prog_78_method_3_code 29 = .ok (.aload_n 0, 1) := by decide +kernel
theorem d16_30 : decode prog_78_method_3_code 30 = .ok (.getfield 12, 3) := by decide +kernel
theorem d16_33 : decode prog_78_method_3_code 33 = .ok (.aload_n 0, 1) := by decide +kernel
theorem d16_34 : decode prog_78_method_3_code 34 = .ok (.getfield 33, 3) := by decide +kernel
theorem d16_37 : decode prog_78_method_3_code 37 = .ok (.iconst 1, 1) := by decide +kernel
theorem d16_38 : decode prog_78_method_3_code 38 = .ok (.isub, 1) := by decide +kernel
theorem d16_39 : decode prog_78_method_3_code 39 = .ok (.dup2, 1) := by decide +kernel
theorem d16_40 : decode prog_78_method_3_code 40 = .ok (.laload, 1) := by decide +kernel
theorem d16_41 : decode prog_78_method_3_code 41 = .ok (.lload_n 2, 1) := by decide +kernel
theorem d16_42 : decode prog_78_method_3_code 42 = .ok (.ladd, 1) := by decide +kernel
theorem d16_43 : decode prog_78_method_3_code 43 = .ok (.lastore, 1) := by decide +kernel
theorem d16_44 : decode prog_78_method_3_code 44 = .ok (.goto 37, 3) := by decide +kernel
theorem d16_47 : decode prog_78_method_3_code 47 = .ok (.aload_n 0, 1) := by decide +kernel
theorem d16_48 : decode prog_78_method_3_code 48 = .ok (.invokevirtual 44, 3) := by decide +kernel
theorem d16_51 : decode prog_78_method_3_code 51 = .ok (.aload_n 0, 1) := by decide +kernel
theorem d16_52 : decode prog_78_method_3_code 52 = .ok (.getfield 29, 3) := by decide +kernel
theorem d16_55 : decode prog_78_method_3_code 55 = .ok (.aload_n 0, 1) := by decide +kernel
theorem d16_56 : decode prog_78_method_3_code 56 = .ok (.getfield 33, 3) := by decide +kernel
theorem d16_59 : decode prog_78_method_3_code 59 = .ok (.aload_n 1, 1) := by decide +kernel
theorem d16_60 : decode prog_78_method_3_code 60 = .ok (.aastore, 1) := by decide +kernel
theorem d16_61 : decode prog_78_method_3_code 61 = .ok (.aload_n 0, 1) := by decide +kernel
theorem d16_62 : decode prog_78_method_3_code 62 = .ok (.getfield 12, 3) := by decide +kernel
theorem d16_65 : decode prog_78_method_3_code 65 = .ok (.aload_n 0, 1) := by decide +kernel
theorem d16_66 : decode prog_78_method_3_code 66 = .ok (.getfield 33, 3) := by decide +kernel
theorem d16_69 : decode prog_78_method_3_code 69 = .ok (.lload_n 2, 1) := by decide +kernel
theorem d16_70 : decode prog_78_method_3_code 70 = .ok (.lastore, 1) := by decide +kernel
theorem d16_71 : decode prog_78_method_3_code 71 = .ok (.aload_n 0, 1) := by decide +kernel
theorem d16_72 : decode prog_78_method_3_code 72 = .ok (.dup, 1) := by decide +kernel
theorem d16_73 : decode prog_78_method_3_code 73 = .ok (.getfield 33, 3) := by decide +kernel
theorem d16_76 : decode prog_78_method_3_code 76 = .ok (.iconst 1, 1) := by decide +kernel
theorem d16_77 : decode prog_78_method_3_code 77 = .ok (.iadd, 1) := by decide +kernel
theorem d16_78 : decode prog_78_method_3_code 78 = .ok (.putfield 33, 3) := by decide +kernel
theorem d16_81 : decode prog_78_method_3_code 81 = .ok (.aload_n 0, 1) := by decide +kernel
theorem d16_82 : decode prog_78_method_3_code 82 = .ok (.dup, 1) := by decide +kernel
theorem d16_83 : decode prog_78_method_3_code 83 = .ok (.getfield 47, 3) := by decide +kernel
theorem d16_86 : decode prog_78_method_3_code 86 = .ok (.lload_n 2, 1) := by decide +kernel
theorem d16_87 : decode prog_78_method_3_code 87 = .ok (.ladd, 1) := by decide +kernel
theorem d16_88 : decode prog_78_method_3_code 88 = .ok (.putfield 47, 3) := by decide +kernel
theorem d16_91 : decode prog_78_method_3_code 91 = .ok (.return_, 1) := by decide +kernel
theorem pn_16 : plainName "com/example/margrave/margrave/engine/Holding" = true := by first | (simp [plainName, overriddenIn]; done) | decide +kernel
theorem ef_rmA (m : MethodId) (k : Addr) (x : Int64) : entryFrame m #[(.ref k), .null, (.long x)] 4 = mkF m 0 #[.val (.ref k), .val .null, .val (.long x), .second] [] := by first | (simp [entryFrame, mkF, argsToLocals, Value.category]; done) | rfl
set_option maxRecDepth 65536 in
set_option maxHeartbeats 40000000 in
theorem rmA (l : Launch) (Z : State) (a0 : Array Value) (hw : ∀ d ∈ tables_1, d.before a0 Z = true) (k qa pa bz : Addr) (x : Int64) (h0 : Heap) (n0 : Nat) (Z0 : n0 ≤ h0.size) (SZ : Sta Z h0 "java/math/BigDecimal" "ZERO" "Ljava/math/BigDecimal;" (.ref bz)) (I : HN Z h0 k qa pa) (ge_k : n0 ≤ k) (ge_qa : n0 ≤ qa) (ge_pa : n0 ≤ pa) (ne_k_qa : k ≠ qa) (ne_k_pa : k ≠ pa) (ne_qa_pa : qa ≠ pa) :
    Con l Z (⟨"com/example/margrave/margrave/engine/Holding", "add", "(Ljava/math/BigDecimal;J)V"⟩ : MethodName) prog_78_method_3_code 4 none [] ({ frames := 1, cells := 0, slots := 0, locals := 20 } : Room) #[(.ref k), .null, (.long x)] h0 (fun v h L => v = none ∧ Fr n0 L ∧ Keep h0 h [k, pa, qa] ∧ Sta Z h "java/math/BigDecimal" "ZERO" "Ljava/math/BigDecimal;" (.ref bz) ∧ HG Z h k x) := by
  refine Con.of (plainFor_of_name pn_16) ?_
  intro p e s m below meth c s₁ hx hby hml hown hnm hret hlk hZ X0 e0
  refine Wp.enter (ef_rmA m k x) ?_
  obtain ⟨E, h_q, h_p, h_e, h_o, h_t, Aq, Ap⟩ := id I
  refine W.aloadN X0 hx 1 (hb hby d16_0) rfl rfl rfl ?_
  refine W.getF X0 hx hZ 4 hown (hw _ (List.mem_of_getElem? (i := 145) rfl)) Via.refl e0 h_e (hb hby d16_1) rfl ?_
  intro T1 X1 e1
  refine W.aloadN X1 hx 5 (hb hby d16_4) rfl rfl rfl ?_
  refine W.getF X1 hx hZ 8 hown (hw _ (List.mem_of_getElem? (i := 147) rfl)) Via.refl e1 h_o (hb hby d16_5) rfl ?_
  intro T2 X2 e2
  refine W.icmpLe X2 hx 47 11 (hb hby d16_8) (by decide) (by decide) rfl (fun q => ?_) (fun q => ?_)
  · skip
    refine W.aloadN X2 hx 48 (hb hby d16_47) rfl rfl rfl ?_
    refine W.callP X2 hx hZ 51 0 k [] hown (hw _ (List.mem_of_getElem? (i := 149) rfl)) (hw _ (List.mem_of_getElem? (i := 150) rfl)) (hw _ (List.mem_of_getElem? (i := 151) rfl)) (hw _ (List.mem_of_getElem? (i := 122) rfl)) (hw _ (List.mem_of_getElem? (i := 123) rfl)) (hw _ (List.mem_of_getElem? (i := 152) rfl)) (by decide) pd_0 rfl e2 E (rmM1 l Z a0 hw k qa pa h0 I) (hb hby d16_48) (by rw [hml]; rfl) rfl rfl (by decide) (by decide) (by decide) (by decide) rfl ?_
    rintro v3 T3 L3 X3 ⟨rfl, e3, rfl⟩
    refine W.aloadN X3 hx 52 (hb hby d16_51) rfl rfl rfl ?_
    refine W.getF X3 hx hZ 55 hown (hw _ (List.mem_of_getElem? (i := 136) rfl)) Via.refl e3 h_p (hb hby d16_52) rfl ?_
    intro T4 X4 e4
    refine W.aloadN X4 hx 56 (hb hby d16_55) rfl rfl rfl ?_
    refine W.getF X4 hx hZ 59 hown (hw _ (List.mem_of_getElem? (i := 145) rfl)) Via.refl e4 h_e (hb hby d16_56) rfl ?_
    intro T5 X5 e5
    refine W.aloadN X5 hx 60 (hb hby d16_59) rfl rfl rfl ?_
    refine W.aastore X5 hx hZ 61 0 e5 Ap rfl (Or.inl rfl) (by decide) (by decide) (hb hby d16_60) rfl ?_
    intro T6 h6 X6 e6 W6 Ap
    have E := E.wr W6
    have SZ := SZ.wr W6
    have h_q := Fld.other W6 h_q (Or.inl ne_k_pa)
    have h_p := Fld.other W6 h_p (Or.inl ne_k_pa)
    have h_e := Fld.other W6 h_e (Or.inl ne_k_pa)
    have h_o := Fld.other W6 h_o (Or.inl ne_k_pa)
    have h_t := Fld.other W6 h_t (Or.inl ne_k_pa)
    have Aq := Aq.other W6 ne_qa_pa
    have z6 : n0 ≤ h6.size := by rw [W6.size]; exact Z0
    refine W.aloadN X6 hx 62 (hb hby d16_61) rfl rfl rfl ?_
    refine W.getF X6 hx hZ 65 hown (hw _ (List.mem_of_getElem? (i := 128) rfl)) Via.refl e6 h_q (hb hby d16_62) rfl ?_
    intro T7 X7 e7
    refine W.aloadN X7 hx 66 (hb hby d16_65) rfl rfl rfl ?_
    refine W.getF X7 hx hZ 69 hown (hw _ (List.mem_of_getElem? (i := 145) rfl)) Via.refl e7 h_e (hb hby d16_66) rfl ?_
    intro T8 X8 e8
    refine W.lloadN X8 hx 70 (hb hby d16_69) rfl rfl ?_
    refine W.lastore X8 hx hZ 71 0 e8 Aq (by decide) (by decide) (hb hby d16_70) rfl ?_
    intro T9 h9 X9 e9 W9 Aq
    have E := E.wr W9
    have SZ := SZ.wr W9
    have h_q := Fld.other W9 h_q (Or.inl ne_k_qa)
    have h_p := Fld.other W9 h_p (Or.inl ne_k_qa)
    have h_e := Fld.other W9 h_e (Or.inl ne_k_qa)
    have h_o := Fld.other W9 h_o (Or.inl ne_k_qa)
    have h_t := Fld.other W9 h_t (Or.inl ne_k_qa)
    have Ap := Ap.other W9 ne_qa_pa.symm
    have z9 : n0 ≤ h9.size := by rw [W9.size]; exact z6
    refine W.aloadN X9 hx 72 (hb hby d16_71) rfl rfl rfl ?_
    refine W.dup X9 hx 73 (hb hby d16_72) rfl rfl ?_
    refine W.getF X9 hx hZ 76 hown (hw _ (List.mem_of_getElem? (i := 145) rfl)) Via.refl e9 h_e (hb hby d16_73) rfl ?_
    intro T10 X10 e10
    refine W.iconst X10 hx 77 (1 : Int32) (hb hby d16_76) rfl rfl ?_
    refine W.iadd X10 hx 78 (hb hby d16_77) rfl ?_
    refine W.putF X10 hx hZ 81 hown (hw _ (List.mem_of_getElem? (i := 145) rfl)) Via.refl e10 h_e E (Or.inl (hw _ (List.mem_of_getElem? (i := 146) rfl))) (hw _ (List.mem_of_getElem? (i := 122) rfl)) (ty := .int) (by decide) rfl rfl (hb hby d16_78) rfl ?_
    intro T11 h11 X11 e11 W11 h_e
    have E := E.wr W11
    have SZ := SZ.wr W11
    have h_q := Fld.other W11 h_q (Or.inr (slot_ne (Or.inl (hw _ (List.mem_of_getElem? (i := 129) rfl))) (Or.inl (hw _ (List.mem_of_getElem? (i := 146) rfl))) (by decide) (t := (.array .long)) (t' := .int) (by decide) (by decide)))
    have h_p := Fld.other W11 h_p (Or.inr (slot_ne (Or.inl (hw _ (List.mem_of_getElem? (i := 137) rfl))) (Or.inl (hw _ (List.mem_of_getElem? (i := 146) rfl))) (by decide) (t := (.array (.object "java/math/BigDecimal"))) (t' := .int) (by decide) (by decide)))
    have h_o := Fld.other W11 h_o (Or.inr (slot_ne (Or.inl (hw _ (List.mem_of_getElem? (i := 148) rfl))) (Or.inl (hw _ (List.mem_of_getElem? (i := 146) rfl))) (by decide) (t := .int) (t' := .int) (by decide) (by decide)))
    have h_t := Fld.other W11 h_t (Or.inr (slot_ne (Or.inl (hw _ (List.mem_of_getElem? (i := 154) rfl))) (Or.inl (hw _ (List.mem_of_getElem? (i := 146) rfl))) (by decide) (t := .long) (t' := .int) (by decide) (by decide)))
    have Aq := Aq.other W11 ne_k_qa.symm
    have Ap := Ap.other W11 ne_k_pa.symm
    have z11 : n0 ≤ h11.size := by rw [W11.size]; exact z9
    refine W.aloadN X11 hx 82 (hb hby d16_81) rfl rfl rfl ?_
    refine W.dup X11 hx 83 (hb hby d16_82) rfl rfl ?_
    refine W.getF X11 hx hZ 86 hown (hw _ (List.mem_of_getElem? (i := 153) rfl)) Via.refl e11 h_t (hb hby d16_83) rfl ?_
    intro T12 X12 e12
    refine W.lloadN X12 hx 87 (hb hby d16_86) rfl rfl ?_
    refine W.ladd X12 hx 88 (hb hby d16_87) rfl ?_
    refine W.putF X12 hx hZ 91 hown (hw _ (List.mem_of_getElem? (i := 153) rfl)) Via.refl e12 h_t E (Or.inl (hw _ (List.mem_of_getElem? (i := 154) rfl))) (hw _ (List.mem_of_getElem? (i := 122) rfl)) (ty := .long) (by decide) rfl rfl (hb hby d16_88) rfl ?_
    intro T13 h13 X13 e13 W13 h_t
    have E := E.wr W13
    have SZ := SZ.wr W13
    have h_q := Fld.other W13 h_q (Or.inr (slot_ne (Or.inl (hw _ (List.mem_of_getElem? (i := 129) rfl))) (Or.inl (hw _ (List.mem_of_getElem? (i := 154) rfl))) (by decide) (t := (.array .long)) (t' := .long) (by decide) (by decide)))
    have h_p := Fld.other W13 h_p (Or.inr (slot_ne (Or.inl (hw _ (List.mem_of_getElem? (i := 137) rfl))) (Or.inl (hw _ (List.mem_of_getElem? (i := 154) rfl))) (by decide) (t := (.array (.object "java/math/BigDecimal"))) (t' := .long) (by decide) (by decide)))
    have h_e := Fld.other W13 h_e (Or.inr (slot_ne (Or.inl (hw _ (List.mem_of_getElem? (i := 146) rfl))) (Or.inl (hw _ (List.mem_of_getElem? (i := 154) rfl))) (by decide) (t := .int) (t' := .long) (by decide) (by decide)))
    have h_o := Fld.other W13 h_o (Or.inr (slot_ne (Or.inl (hw _ (List.mem_of_getElem? (i := 148) rfl))) (Or.inl (hw _ (List.mem_of_getElem? (i := 154) rfl))) (by decide) (t := .int) (t' := .long) (by decide) (by decide)))
    have Aq := Aq.other W13 ne_k_qa.symm
    have Ap := Ap.other W13 ne_k_pa.symm
    have z13 : n0 ≤ h13.size := by rw [W13.size]; exact z11
    rw [Int64.zero_add] at h_t
    refine W.vret X13 hx hlk hret (hb hby d16_91) (by decide) (by decide) ?_
    rw [e13]
    exact ⟨rfl, (Fr.app (Fr.app (Fr.app (Fr.app (Fr.app (Fr.nil _) (Fr.nil _)) (fr1 ge_pa)) (fr1 ge_qa)) (fr1 ge_k)) (fr1 ge_k)), ((((Keep.refl _ _).wr W6 (Or.inl (by simp))).wr W9 (Or.inl (by simp))).wr W11 (Or.inl (by simp))).wr W13 (Or.inl (by simp)), SZ, E, h_t⟩
  · exact absurd q (by decide)
theorem d15_0 : decode prog_78_method_2_code 0 = .ok (.aload_n 0, 1) := by decide +kernel
theorem d15_1 : decode prog_78_method_2_code 1 = .ok (.invokespecial 7, 3) := by decide +kernel
theorem d15_4 : decode prog_78_method_2_code 4 = .ok (.aload_n 0, 1) := by decide +kernel
theorem d15_5 : decode prog_78_method_2_code 5 = .ok (.iconst 1, 1) := by decide +kernel
theorem d15_6 : decode prog_78_method_2_code 6 = .ok (.newarray .long, 2) := by decide +kernel
theorem d15_8 : decode prog_78_method_2_code 8 = .ok (.putfield 12, 3) := by decide +kernel
theorem d15_11 : decode prog_78_method_2_code 11 = .ok (.aload_n 0, 1) := by decide +kernel
theorem d15_12 : decode prog_78_method_2_code 12 = .ok (.getstatic 16, 3) := by decide +kernel
theorem d15_15 : decode prog_78_method_2_code 15 = .ok (.putfield 22, 3) := by decide +kernel
theorem d15_18 : decode prog_78_method_2_code 18 = .ok (.iload_n 1, 1) := by decide +kernel
theorem d15_19 : decode prog_78_method_2_code 19 = .ok (.ifCond .eq 13, 3) := by decide +kernel
theorem d15_22 : decode prog_78_method_2_code 22 = .ok (.aload_n 0, 1) := by decide +kernel
theorem d15_23 : decode prog_78_method_2_code 23 = .ok (.iconst 1, 1) := by decide +kernel
theorem d15_24 : decode prog_78_method_2_code 24 = .ok (.newarray .int, 2) := by decide +kernel
theorem d15_26 : decode prog_78_method_2_code 26 = .ok (.putfield 25, 3) := by decide +kernel
theorem d15_29 : decode prog_78_method_2_code 29 = .ok (.goto 11, 3) := by decide +kernel
theorem d15_32 : decode prog_78_method_2_code 32 = .ok (.aload_n 0, 1) := by decide +kernel
theorem d15_33 : decode prog_78_method_2_code 33 = .ok (.iconst 1, 1) := by decide +kernel
theorem d15_34 : decode prog_78_method_2_code 34 = .ok (.anewarray 17, 3) := by decide +kernel
theorem d15_37 : decode prog_78_method_2_code 37 = .ok (.putfield 29, 3) := by decide +kernel
theorem d15_40 : decode prog_78_method_2_code 40 = .ok (.return_, 1) := by decide +kernel
theorem pn_15 : plainName "com/example/margrave/margrave/engine/Holding" = true := by first | (simp [plainName, overriddenIn]; done) | decide +kernel
theorem ef_rmHI (m : MethodId) (k : Addr) : entryFrame m #[(.ref k), (.int (0 : Int32))] 2 = mkF m 0 #[.val (.ref k), .val (.int (0 : Int32))] [] := by first | (simp [entryFrame, mkF, argsToLocals, Value.category]; done) | rfl
set_option maxRecDepth 65536 in
set_option maxHeartbeats 40000000 in
theorem rmHI (l : Launch) (Z : State) (a0 : Array Value) (hw : ∀ d ∈ tables_1, d.before a0 Z = true) (k bz : Addr) (h0 : Heap) (n0 : Nat) (Z0 : n0 ≤ h0.size) (E : Exa Z h0 k "com/example/margrave/margrave/engine/Holding") (h_q : Fld Z h0 k "com/example/margrave/margrave/engine/Holding" "quantities" "[J" .null) (h_p : Fld Z h0 k "com/example/margrave/margrave/engine/Holding" "prices" "[Ljava/math/BigDecimal;" .null) (h_e : Fld Z h0 k "com/example/margrave/margrave/engine/Holding" "entries" "I" (.int 0)) (h_o : Fld Z h0 k "com/example/margrave/margrave/engine/Holding" "oldest" "I" (.int 0)) (h_t : Fld Z h0 k "com/example/margrave/margrave/engine/Holding" "quantity" "J" (.long 0)) (h_c : Fld Z h0 k "com/example/margrave/margrave/engine/Holding" "closed" "Ljava/math/BigDecimal;" .null) (SZ : Sta Z h0 "java/math/BigDecimal" "ZERO" "Ljava/math/BigDecimal;" (.ref bz)) (ge_k : n0 ≤ k) :
    Con l Z (⟨"com/example/margrave/margrave/engine/Holding", "<init>", "(Z)V"⟩ : MethodName) prog_78_method_2_code 2 none [] ({ frames := 1, cells := 2, slots := 2, locals := 20 } : Room) #[(.ref k), (.int (0 : Int32))] h0 (fun v h L => v = none ∧ Fr n0 L ∧ Keep h0 h [k] ∧ ∃ qa pa : Addr, h0.size ≤ qa ∧ h0.size ≤ pa ∧ k ≠ qa ∧ k ≠ pa ∧ qa ≠ pa ∧ HN Z h k qa pa) := by
  refine Con.of (plainFor_of_name pn_15) ?_
  intro p e s m below meth c s₁ hx hby hml hown hnm hret hlk hZ X0 e0
  refine Wp.enter (ef_rmHI m k) ?_
  have KP : Keep h0 h0 [k] := Keep.refl _ _
  refine W.aloadN X0 hx 1 (hb hby d15_0) rfl rfl rfl ?_
  refine W.initO X0 hx hZ 4 0 hown (hw _ (List.mem_of_getElem? (i := 127) rfl)) (hw _ (List.mem_of_getElem? (i := 10) rfl)) (hw _ (List.mem_of_getElem? (i := 11) rfl)) e0 (by rw [hml]; rfl) (hb hby d15_1) (by decide) rfl (by decide) rfl ?_
  intro T1 X1 e1
  refine W.aloadN X1 hx 5 (hb hby d15_4) rfl rfl rfl ?_
  refine W.iconst X1 hx 6 (1 : Int32) (hb hby d15_5) rfl rfl ?_
  refine W.newarr X1 hx hZ 8 1 1 (hw _ (List.mem_of_getElem? (i := 97) rfl)) e1 (hb hby d15_6) (by decide) (by decide) (by decide) (by decide) (by decide) rfl ?_
  intro T2 h2 qa q2 X2 e2 E2 Aq
  have ne_k_qa : k ≠ qa := fun q => by have := E.lt; rw [q, q2] at this; exact Nat.lt_irrefl _ this
  have ge_qa : n0 ≤ qa := by have := Z0; omega
  have gx_qa : h0.size ≤ qa := by have := KP.1; omega
  have E := E.ext E2
  have h_q := h_q.ext E2
  have h_p := h_p.ext E2
  have h_e := h_e.ext E2
  have h_o := h_o.ext E2
  have h_t := h_t.ext E2
  have h_c := h_c.ext E2
  have SZ := SZ.ext E2
  have z2 : n0 ≤ h2.size := Nat.le_trans Z0 E2.1
  have KP := KP.ext E2
  refine W.putF X2 hx hZ 11 hown (hw _ (List.mem_of_getElem? (i := 128) rfl)) Via.refl e2 h_q E (Or.inl (hw _ (List.mem_of_getElem? (i := 129) rfl))) (hw _ (List.mem_of_getElem? (i := 122) rfl)) (ty := (.array .long)) (by decide) rfl rfl (hb hby d15_8) rfl ?_
  intro T3 h3 X3 e3 W3 h_q
  have E := E.wr W3
  have h_p := Fld.other W3 h_p (Or.inr (slot_ne (Or.inl (hw _ (List.mem_of_getElem? (i := 137) rfl))) (Or.inl (hw _ (List.mem_of_getElem? (i := 129) rfl))) (by decide) (t := (.array (.object "java/math/BigDecimal"))) (t' := (.array .long)) (by decide) (by decide)))
  have h_e := Fld.other W3 h_e (Or.inr (slot_ne (Or.inl (hw _ (List.mem_of_getElem? (i := 146) rfl))) (Or.inl (hw _ (List.mem_of_getElem? (i := 129) rfl))) (by decide) (t := .int) (t' := (.array .long)) (by decide) (by decide)))
  have h_o := Fld.other W3 h_o (Or.inr (slot_ne (Or.inl (hw _ (List.mem_of_getElem? (i := 148) rfl))) (Or.inl (hw _ (List.mem_of_getElem? (i := 129) rfl))) (by decide) (t := .int) (t' := (.array .long)) (by decide) (by decide)))
  have h_t := Fld.other W3 h_t (Or.inr (slot_ne (Or.inl (hw _ (List.mem_of_getElem? (i := 154) rfl))) (Or.inl (hw _ (List.mem_of_getElem? (i := 129) rfl))) (by decide) (t := .long) (t' := (.array .long)) (by decide) (by decide)))
  have h_c := Fld.other W3 h_c (Or.inr (slot_ne (Or.inl (hw _ (List.mem_of_getElem? (i := 133) rfl))) (Or.inl (hw _ (List.mem_of_getElem? (i := 129) rfl))) (by decide) (t := (.object "java/math/BigDecimal")) (t' := (.array .long)) (by decide) (by decide)))
  have SZ := SZ.wr W3
  have Aq := Aq.other W3 ne_k_qa.symm
  have z3 : n0 ≤ h3.size := by rw [W3.size]; exact z2
  have KP := KP.wr W3 (by first | (refine Or.inl ?_; simp; done) | exact Or.inr gx_k)
  refine W.aloadN X3 hx 12 (hb hby d15_11) rfl rfl rfl ?_
  refine W.getS X3 hx hZ 15 hown (hw _ (List.mem_of_getElem? (i := 130) rfl)) Via.refl e3 SZ (hb hby d15_12) rfl ?_
  intro T4 X4 e4
  refine W.putF X4 hx hZ 18 hown (hw _ (List.mem_of_getElem? (i := 132) rfl)) Via.refl e4 h_c E (Or.inl (hw _ (List.mem_of_getElem? (i := 133) rfl))) (hw _ (List.mem_of_getElem? (i := 122) rfl)) (ty := (.object "java/math/BigDecimal")) (by decide) rfl rfl (hb hby d15_15) rfl ?_
  intro T5 h5 X5 e5 W5 h_c
  have E := E.wr W5
  have h_q := Fld.other W5 h_q (Or.inr (slot_ne (Or.inl (hw _ (List.mem_of_getElem? (i := 129) rfl))) (Or.inl (hw _ (List.mem_of_getElem? (i := 133) rfl))) (by decide) (t := (.array .long)) (t' := (.object "java/math/BigDecimal")) (by decide) (by decide)))
  have h_p := Fld.other W5 h_p (Or.inr (slot_ne (Or.inl (hw _ (List.mem_of_getElem? (i := 137) rfl))) (Or.inl (hw _ (List.mem_of_getElem? (i := 133) rfl))) (by decide) (t := (.array (.object "java/math/BigDecimal"))) (t' := (.object "java/math/BigDecimal")) (by decide) (by decide)))
  have h_e := Fld.other W5 h_e (Or.inr (slot_ne (Or.inl (hw _ (List.mem_of_getElem? (i := 146) rfl))) (Or.inl (hw _ (List.mem_of_getElem? (i := 133) rfl))) (by decide) (t := .int) (t' := (.object "java/math/BigDecimal")) (by decide) (by decide)))
  have h_o := Fld.other W5 h_o (Or.inr (slot_ne (Or.inl (hw _ (List.mem_of_getElem? (i := 148) rfl))) (Or.inl (hw _ (List.mem_of_getElem? (i := 133) rfl))) (by decide) (t := .int) (t' := (.object "java/math/BigDecimal")) (by decide) (by decide)))
  have h_t := Fld.other W5 h_t (Or.inr (slot_ne (Or.inl (hw _ (List.mem_of_getElem? (i := 154) rfl))) (Or.inl (hw _ (List.mem_of_getElem? (i := 133) rfl))) (by decide) (t := .long) (t' := (.object "java/math/BigDecimal")) (by decide) (by decide)))
  have SZ := SZ.wr W5
  have Aq := Aq.other W5 ne_k_qa.symm
  have z5 : n0 ≤ h5.size := by rw [W5.size]; exact z3
  have KP := KP.wr W5 (by first | (refine Or.inl ?_; simp; done) | exact Or.inr gx_k)
  refine W.iloadN X5 hx 19 (hb hby d15_18) rfl rfl ?_
  refine W.ifEq X5 hx 32 22 (hb hby d15_19) (by decide) (by decide) rfl (fun q => ?_) (fun q => ?_)
  · skip
    refine W.aloadN X5 hx 33 (hb hby d15_32) rfl rfl rfl ?_
    refine W.iconst X5 hx 34 (1 : Int32) (hb hby d15_33) rfl rfl ?_
    refine W.newR X5 hx hZ 37 1 1 hown (hw _ (List.mem_of_getElem? (i := 134) rfl)) (hw _ (List.mem_of_getElem? (i := 135) rfl)) e5 (hb hby d15_34) (by decide) (by decide) (by decide) (by decide) (by decide) rfl ?_
    intro T6 h6 pa q6 X6 e6 E6 Ap TP
    have ne_k_pa : k ≠ pa := fun q => by have := E.lt; rw [q, q6] at this; exact Nat.lt_irrefl _ this
    have ne_qa_pa : qa ≠ pa := fun q => by have := Aq.lt; rw [q, q6] at this; exact Nat.lt_irrefl _ this
    have ge_pa : n0 ≤ pa := by have := z5; omega
    have gx_pa : h0.size ≤ pa := by have := KP.1; omega
    have E := E.ext E6
    have h_q := h_q.ext E6
    have h_p := h_p.ext E6
    have h_e := h_e.ext E6
    have h_o := h_o.ext E6
    have h_t := h_t.ext E6
    have Aq := Aq.ext E6
    have z6 : n0 ≤ h6.size := Nat.le_trans z5 E6.1
    have KP := KP.ext E6
    refine W.putF X6 hx hZ 40 hown (hw _ (List.mem_of_getElem? (i := 136) rfl)) Via.refl e6 h_p E (Or.inl (hw _ (List.mem_of_getElem? (i := 137) rfl))) (hw _ (List.mem_of_getElem? (i := 122) rfl)) (ty := (.array (.object "java/math/BigDecimal"))) (by decide) rfl rfl (hb hby d15_37) rfl ?_
    intro T7 h7 X7 e7 W7 h_p
    have E := E.wr W7
    have h_q := Fld.other W7 h_q (Or.inr (slot_ne (Or.inl (hw _ (List.mem_of_getElem? (i := 129) rfl))) (Or.inl (hw _ (List.mem_of_getElem? (i := 137) rfl))) (by decide) (t := (.array .long)) (t' := (.array (.object "java/math/BigDecimal"))) (by decide) (by decide)))
    have h_e := Fld.other W7 h_e (Or.inr (slot_ne (Or.inl (hw _ (List.mem_of_getElem? (i := 146) rfl))) (Or.inl (hw _ (List.mem_of_getElem? (i := 137) rfl))) (by decide) (t := .int) (t' := (.array (.object "java/math/BigDecimal"))) (by decide) (by decide)))
    have h_o := Fld.other W7 h_o (Or.inr (slot_ne (Or.inl (hw _ (List.mem_of_getElem? (i := 148) rfl))) (Or.inl (hw _ (List.mem_of_getElem? (i := 137) rfl))) (by decide) (t := .int) (t' := (.array (.object "java/math/BigDecimal"))) (by decide) (by decide)))
    have h_t := Fld.other W7 h_t (Or.inr (slot_ne (Or.inl (hw _ (List.mem_of_getElem? (i := 154) rfl))) (Or.inl (hw _ (List.mem_of_getElem? (i := 137) rfl))) (by decide) (t := .long) (t' := (.array (.object "java/math/BigDecimal"))) (by decide) (by decide)))
    have Aq := Aq.other W7 ne_k_qa.symm
    have Ap := Ap.other W7 ne_k_pa.symm
    have z7 : n0 ≤ h7.size := by rw [W7.size]; exact z6
    have KP := KP.wr W7 (by first | (refine Or.inl ?_; simp; done) | exact Or.inr gx_k)
    refine W.vret X7 hx hlk hret (hb hby d15_40) (by decide) (by decide) ?_
    rw [e7]
    exact ⟨rfl, (Fr.app (Fr.app (Fr.app (Fr.nil _) (fr1 ge_k)) (fr1 ge_k)) (fr1 ge_k)), KP, qa, pa, gx_qa, gx_pa, ne_k_qa, ne_k_pa, ne_qa_pa, E, h_q, h_p, h_e, h_o, h_t, Aq, Ap⟩
  · exact absurd rfl q
theorem d13_0 : decode prog_82_method_17_code 0 = .ok (.aload_n 0, 1) := by decide +kernel
theorem d13_1 : decode prog_82_method_17_code 1 = .ok (.iload_n 1, 1) := by decide +kernel
theorem d13_2 : decode prog_82_method_17_code 2 = .ok (.invokevirtual 184, 3) := by decide +kernel
theorem d13_5 : decode prog_82_method_17_code 5 = .ok (.astore_n 3, 1) := by decide +kernel
theorem d13_6 : decode prog_82_method_17_code 6 = .ok (.aload_n 3, 1) := by decide +kernel
theorem d13_7 : decode prog_82_method_17_code 7 = .ok (.ifnonnull 130, 3) := by decide +kernel
theorem d13_10 : decode prog_82_method_17_code 10 = .ok (.new 114, 3) := by decide +kernel
theorem d13_13 : decode prog_82_method_17_code 13 = .ok (.dup, 1) := by decide +kernel
theorem d13_14 : decode prog_82_method_17_code 14 = .ok (.aload_n 0, 1) := by decide +kernel
theorem d13_15 : decode prog_82_method_17_code 15 = .ok (.getfield 32, 3) := by decide +kernel
theorem d13_18 : decode prog_82_method_17_code 18 = .ok (.ifnull 7, 3) := by decide +kernel
theorem d13_21 : decode prog_82_method_17_code 21 = .ok (.iconst 1, 1) := by decide +kernel
theorem d13_22 : decode prog_82_method_17_code 22 = .ok (.goto 4, 3) := by decide +kernel
theorem d13_25 : decode prog_82_method_17_code 25 = .ok (.iconst 0, 1) := by decide +kernel
theorem d13_26 : decode prog_82_method_17_code 26 = .ok (.invokespecial 187, 3) := by decide +kernel
theorem d13_29 : decode prog_82_method_17_code 29 = .ok (.astore_n 3, 1) := by decide +kernel
theorem d13_30 : decode prog_82_method_17_code 30 = .ok (.aload_n 0, 1) := by decide +kernel
theorem d13_31 : decode prog_82_method_17_code 31 = .ok (.getfield 32, 3) := by decide +kernel
theorem d13_34 : decode prog_82_method_17_code 34 = .ok (.ifnull 55, 3) := by decide +kernel
theorem d13_37 : decode prog_82_method_17_code 37 = .ok (.iconst 0, 1) := by decide +kernel
theorem d13_38 : decode prog_82_method_17_code 38 = .ok (.istore 4, 2) := by decide +kernel
theorem d13_40 : decode prog_82_method_17_code 40 = .ok (.iload 4, 2) := by decide +kernel
theorem d13_42 : decode prog_82_method_17_code 42 = .ok (.aload_n 0, 1) := by decide +kernel
theorem d13_43 : decode prog_82_method_17_code 43 = .ok (.getfield 32, 3) := by decide +kernel
theorem d13_46 : decode prog_82_method_17_code 46 = .ok (.iload_n 1, 1) := by decide +kernel
theorem d13_47 : decode prog_82_method_17_code 47 = .ok (.invokevirtual 190, 3) := by decide +kernel
theorem d13_50 : decode prog_82_method_17_code 50 = .ok (.if_icmp .ge 36, 3) := by decide +kernel
theorem d13_53 : decode prog_82_method_17_code 53 = .ok (.aload_n 0, 1) := by decide +kernel
theorem d13_54 : decode prog_82_method_17_code 54 = .ok (.getfield 32, 3) := by decide +kernel
theorem d13_57 : decode prog_82_method_17_code 57 = .ok (.iload_n 1, 1) := by decide +kernel
theorem d13_58 : decode prog_82_method_17_code 58 = .ok (.iload 4, 2) := by decide +kernel
theorem d13_60 : decode prog_82_method_17_code 60 = .ok (.invokevirtual 193, 3) := by decide +kernel
theorem d13_63 : decode prog_82_method_17_code 63 = .ok (.istore 5, 2) := by decide +kernel
theorem d13_65 : decode prog_82_method_17_code 65 = .ok (.aload_n 3, 1) := by decide +kernel
theorem d13_66 : decode prog_82_method_17_code 66 = .ok (.iload 5, 2) := by decide +kernel
theorem d13_68 : decode prog_82_method_17_code 68 = .ok (.aload_n 0, 1) := by decide +kernel
theorem d13_69 : decode prog_82_method_17_code 69 = .ok (.getfield 32, 3) := by decide +kernel
theorem d13_72 : decode prog_82_method_17_code 72 = .ok (.iload 5, 2) := by decide +kernel
theorem d13_74 : decode prog_82_method_17_code 74 = .ok (.invokevirtual 195, 3) := by decide +kernel
theorem d13_77 : decode prog_82_method_17_code 77 = .ok (.invokevirtual 122, 3) := by decide +kernel
theorem d13_80 : decode prog_82_method_17_code 80 = .ok (.iinc 4 1, 3) := by decide +kernel
theorem d13_83 : decode prog_82_method_17_code 83 = .ok (.goto (-43), 3) := by decide +kernel
theorem d13_86 : decode prog_82_method_17_code 86 = .ok (.goto 25, 3) := by decide +kernel
theorem d13_89 : decode prog_82_method_17_code 89 = .ok (.aload_n 0, 1) := by decide +kernel
theorem d13_90 : decode prog_82_method_17_code 90 = .ok (.getfield 96, 3) := by decide +kernel
theorem d13_93 : decode prog_82_method_17_code 93 = .ok (.iload_n 1, 1) := by decide +kernel
theorem d13_94 : decode prog_82_method_17_code 94 = .ok (.laload, 1) := by decide +kernel
theorem d13_95 : decode prog_82_method_17_code 95 = .ok (.lconst 0, 1) := by decide +kernel
theorem d13_96 : decode prog_82_method_17_code 96 = .ok (.lcmp, 1) := by decide +kernel
theorem d13_97 : decode prog_82_method_17_code 97 = .ok (.ifCond .le 14, 3) := by decide +kernel
theorem d13_100 : decode prog_82_method_17_code 100 = .ok (.aload_n 3, 1) := by decide +kernel
theorem d13_101 : decode prog_82_method_17_code 101 = .ok (.aload_n 2, 1) := by decide +kernel
theorem d13_102 : decode prog_82_method_17_code 102 = .ok (.aload_n 0, 1) := by decide +kernel
theorem d13_103 : decode prog_82_method_17_code 103 = .ok (.getfield 96, 3) := by decide +kernel
theorem d13_106 : decode prog_82_method_17_code 106 = .ok (.iload_n 1, 1) := by decide +kernel
theorem d13_107 : decode prog_82_method_17_code 107 = .ok (.laload, 1) := by decide +kernel
theorem d13_108 : decode prog_82_method_17_code 108 = .ok (.invokevirtual 113, 3) := by decide +kernel
theorem d13_111 : decode prog_82_method_17_code 111 = .ok (.aload_n 0, 1) := by decide +kernel
theorem d13_112 : decode prog_82_method_17_code 112 = .ok (.getfield 199, 3) := by decide +kernel
theorem d13_115 : decode prog_82_method_17_code 115 = .ok (.ifnonnull 15, 3) := by decide +kernel
theorem d13_118 : decode prog_82_method_17_code 118 = .ok (.aload_n 0, 1) := by decide +kernel
theorem d13_119 : decode prog_82_method_17_code 119 = .ok (.aload_n 0, 1) := by decide +kernel
theorem d13_120 : decode prog_82_method_17_code 120 = .ok (.getfield 149, 3) := by decide +kernel
theorem d13_123 : decode prog_82_method_17_code 123 = .ok (.arraylength, 1) := by decide +kernel
theorem d13_124 : decode prog_82_method_17_code 124 = .ok (.anewarray 114, 3) := by decide +kernel
theorem d13_127 : decode prog_82_method_17_code 127 = .ok (.putfield 199, 3) := by decide +kernel
theorem d13_130 : decode prog_82_method_17_code 130 = .ok (.aload_n 0, 1) := by decide +kernel
theorem d13_131 : decode prog_82_method_17_code 131 = .ok (.getfield 199, 3) := by decide +kernel
theorem d13_134 : decode prog_82_method_17_code 134 = .ok (.iload_n 1, 1) := by decide +kernel
theorem d13_135 : decode prog_82_method_17_code 135 = .ok (.aload_n 3, 1) := by decide +kernel
theorem d13_136 : decode prog_82_method_17_code 136 = .ok (.aastore, 1) := by decide +kernel
theorem d13_137 : decode prog_82_method_17_code 137 = .ok (.aload_n 3, 1) := by decide +kernel
theorem d13_138 : decode prog_82_method_17_code 138 = .ok (.areturn, 1) := by decide +kernel
theorem pn_13 : plainName "com/example/margrave/margrave/engine/Holdings" = true := by first | (simp [plainName, overriddenIn]; done) | decide +kernel
theorem ef_rmTr (m : MethodId) (o : Addr) (i : Nat) : entryFrame m #[(.ref o), (.int (Int32.ofNat i)), .null] 6 = mkF m 0 #[.val (.ref o), .val (.int (Int32.ofNat i)), .val .null, .unset, .unset, .unset] [] := by first | (simp [entryFrame, mkF, argsToLocals, Value.category]; done) | rfl
set_option maxRecDepth 65536 in
set_option maxHeartbeats 40000000 in
theorem rmTr (l : Launch) (Z : State) (a0 : Array Value) (hw : ∀ d ∈ tables_1, d.before a0 Z = true) (o mb bf : Addr) (n : Nat) (fb : Nat → Int64) (ev : Value) (g : Nat → Value) (i : Nat) (xs : Nat → Int64) (bz : Addr) (h0 : Heap) (n0 : Nat) (Z0 : n0 ≤ h0.size) (O : HO Z h0 n0 o mb bf n fb ev) (HEE : HE Z h0 n0 o mb bf n g ev) (S : HGs Z h0 o bf ev g xs 99) (SZ : Sta Z h0 "java/math/BigDecimal" "ZERO" "Ljava/math/BigDecimal;" (.ref bz)) (hi : i ≤ 15) (hn : 16 ≤ n ∧ n ≤ 31) (hr : g i = .null) (hfb : fb i = 0) :
    Con l Z (⟨"com/example/margrave/margrave/engine/Holdings", "traded", "(ILjava/math/BigDecimal;)Lcom/example/margrave/margrave/engine/Holding;"⟩ : MethodName) prog_82_method_17_code 6 (some (.object "com/example/margrave/margrave/engine/Holding")) [] ({ frames := 2, cells := 4, slots := 40, locals := 40 } : Room) #[(.ref o), (.int (Int32.ofNat i)), .null] h0 (fun v h L => ∃ (k qa pa : Addr) (ev' : Value), v = some (.ref k) ∧ Fr n0 L ∧ h0.size ≤ h.size ∧ HO Z h n0 o mb bf n fb ev' ∧ HE Z h n0 o mb bf n (upd g i (.ref k)) ev' ∧ HGs Z h o bf ev' (upd g i (.ref k)) xs i ∧ HN Z h k qa pa ∧ h0.size ≤ k ∧ h0.size ≤ qa ∧ h0.size ≤ pa ∧ k ≠ qa ∧ k ≠ pa ∧ qa ≠ pa ∧ Sta Z h "java/math/BigDecimal" "ZERO" "Ljava/math/BigDecimal;" (.ref bz) ∧ ∀ en, ev' = .ref en → en ≠ k ∧ en ≠ qa ∧ en ≠ pa) := by
  refine Con.of (plainFor_of_name pn_13) ?_
  intro p e s m below meth c s₁ hx hby hml hown hnm hret hlk hZ X0 e0
  refine Wp.enter (ef_rmTr m o i) ?_
  obtain ⟨ge_o, ge_bf, E, f_g, f_m, f_be, f_en, f_fp, A1, A6, ne_o_mb, ne_o_bf, ne_mb_bf⟩ := id O
  have HE0 := HEE
  rcases HEE with ⟨rfl, hg⟩ | ⟨en, rfl, ge_en, A, TA, ne_o_en, ne_mb_en, ne_bf_en⟩
  · skip
    have KP : Keep h0 h0 [o] := Keep.refl _ _
    refine W.aloadN X0 hx 1 (hb hby d13_0) rfl rfl rfl ?_
    refine W.iloadN X0 hx 2 (hb hby d13_1) rfl rfl ?_
    refine W.callP X0 hx hZ 5 0 o [(.int (Int32.ofNat i))] hown (hw _ (List.mem_of_getElem? (i := 117) rfl)) (hw _ (List.mem_of_getElem? (i := 118) rfl)) (hw _ (List.mem_of_getElem? (i := 119) rfl)) (hw _ (List.mem_of_getElem? (i := 1) rfl)) (hw _ (List.mem_of_getElem? (i := 2) rfl)) (hw _ (List.mem_of_getElem? (i := 120) rfl)) (by decide) pd_4 rfl e0 E (rmE l Z a0 hw n0 o mb bf n fb .null g i .null h0 O HE0 (by omega) (by omega) hr rfl) (hb hby d13_2) (by rw [hml]; rfl) rfl rfl (by decide) (by decide) (by decide) (by decide) rfl ?_
    rintro v1 T1 L1 X1 ⟨rfl, e1, rfl⟩
    refine W.astoreN X1 hx 6 #[.val (.ref o), .val (.int (Int32.ofNat i)), .val .null, .val .null, .unset, .unset] (hb hby d13_5) rfl rfl rfl ?_
    refine W.aloadN X1 hx 7 (hb hby d13_6) rfl rfl rfl ?_
    refine W.nonnullN X1 hx 10 (hb hby d13_7) rfl ?_
    refine W.newO X1 hx hZ 13 hown (hw _ (List.mem_of_getElem? (i := 121) rfl)) (hw _ (List.mem_of_getElem? (i := 122) rfl)) (hw _ (List.mem_of_getElem? (i := 123) rfl)) e1 (hb hby d13_10) (by decide) (by decide) rfl ?_
    intro T2 h2 k q2 X2 e2 E2 EK DK
    have ne_o_k : o ≠ k := fun q => by have := E.lt; rw [q, q2] at this; exact Nat.lt_irrefl _ this
    have ne_mb_k : mb ≠ k := fun q => by have := A1.lt; rw [q, q2] at this; exact Nat.lt_irrefl _ this
    have ne_bf_k : bf ≠ k := fun q => by have := A6.lt; rw [q, q2] at this; exact Nat.lt_irrefl _ this
    have ge_k : n0 ≤ k := by have := Z0; omega
    have gx_k : h0.size ≤ k := by have := KP.1; omega
    have E := E.ext E2
    have f_g := f_g.ext E2
    have f_m := f_m.ext E2
    have f_be := f_be.ext E2
    have f_en := f_en.ext E2
    have f_fp := f_fp.ext E2
    have A1 := A1.ext E2
    have A6 := A6.ext E2
    have SZ := SZ.ext E2
    have z2 : n0 ≤ h2.size := Nat.le_trans Z0 E2.1
    have KP := KP.ext E2
    have h_q := DK (Or.inl (hw _ (List.mem_of_getElem? (i := 129) rfl))) (ty := (.array .long)) (by decide)
    have h_p := DK (Or.inl (hw _ (List.mem_of_getElem? (i := 137) rfl))) (ty := (.array (.object "java/math/BigDecimal"))) (by decide)
    have h_e := DK (Or.inl (hw _ (List.mem_of_getElem? (i := 146) rfl))) (ty := .int) (by decide)
    have h_o := DK (Or.inl (hw _ (List.mem_of_getElem? (i := 148) rfl))) (ty := .int) (by decide)
    have h_t := DK (Or.inl (hw _ (List.mem_of_getElem? (i := 154) rfl))) (ty := .long) (by decide)
    have h_c := DK (Or.inl (hw _ (List.mem_of_getElem? (i := 133) rfl))) (ty := (.object "java/math/BigDecimal")) (by decide)
    refine W.dup X2 hx 14 (hb hby d13_13) rfl rfl ?_
    refine W.aloadN X2 hx 15 (hb hby d13_14) rfl rfl rfl ?_
    refine W.getF X2 hx hZ 18 hown (hw _ (List.mem_of_getElem? (i := 73) rfl)) Via.refl e2 f_g (hb hby d13_15) rfl ?_
    intro T3 X3 e3
    refine W.nullN X3 hx 25 (hb hby d13_18) (by decide) (by decide) ?_
    refine W.iconst X3 hx 26 (0 : Int32) (hb hby d13_25) rfl rfl ?_
    have EK0 := EK
    refine W.callI X3 hx hZ 29 1 k [(.int (0 : Int32))] rfl hown (hw _ (List.mem_of_getElem? (i := 124) rfl)) (hw _ (List.mem_of_getElem? (i := 125) rfl)) (hw _ (List.mem_of_getElem? (i := 123) rfl)) (hw _ (List.mem_of_getElem? (i := 126) rfl)) (by decide) pd_6 rfl e3 (rmHI l Z a0 hw k bz h2 n0 z2 EK h_q h_p h_e h_o h_t h_c SZ ge_k) (hb hby d13_26) (by rw [hml]; rfl) rfl rfl (by decide) (by decide) (by decide) (by decide) rfl ?_
    rintro v4 T4 L4 X4 ⟨rfl, N4, K4, qa, pa, gq, gp, ne_k_qa, ne_k_pa, ne_qa_pa, I⟩
    have hle : h0.size ≤ h2.size := KP.1
    have ne_o_qa : o ≠ qa := Nat.ne_of_lt (Nat.lt_of_lt_of_le f_g.lt gq)
    have ne_mb_qa : mb ≠ qa := Nat.ne_of_lt (Nat.lt_of_lt_of_le A1.lt gq)
    have ne_bf_qa : bf ≠ qa := Nat.ne_of_lt (Nat.lt_of_lt_of_le A6.lt gq)
    have ge_qa : n0 ≤ qa := Nat.le_trans z2 gq
    have gx_qa : h0.size ≤ qa := Nat.le_trans hle gq
    have ne_o_pa : o ≠ pa := Nat.ne_of_lt (Nat.lt_of_lt_of_le f_g.lt gp)
    have ne_mb_pa : mb ≠ pa := Nat.ne_of_lt (Nat.lt_of_lt_of_le A1.lt gp)
    have ne_bf_pa : bf ≠ pa := Nat.ne_of_lt (Nat.lt_of_lt_of_le A6.lt gp)
    have ge_pa : n0 ≤ pa := Nat.le_trans z2 gp
    have gx_pa : h0.size ≤ pa := Nat.le_trans hle gp
    have SZ := Sta.keepE SZ K4 EK0
    have E := E.keep K4
    have f_g := f_g.keep K4 (ninS ne_o_k nin0)
    have f_m := f_m.keep K4 (ninS ne_o_k nin0)
    have f_be := f_be.keep K4 (ninS ne_o_k nin0)
    have f_en := f_en.keep K4 (ninS ne_o_k nin0)
    have f_fp := f_fp.keep K4 (ninS ne_o_k nin0)
    have A1 := A1.keep K4 (ninS ne_mb_k nin0)
    have A6 := A6.keep K4 (ninS ne_bf_k nin0)
    have z4 : n0 ≤ T4.heap.size := Nat.le_trans z2 K4.1
    have KP := KP.trans K4 (allS (Or.inr gx_k) all0)
    obtain ⟨EK, h_q, h_p, h_e, h_o, h_t, Aq, Ap⟩ := I
    refine W.astoreN X4 hx 30 #[.val (.ref o), .val (.int (Int32.ofNat i)), .val .null, .val (.ref k), .unset, .unset] (hb hby d13_29) rfl rfl rfl ?_
    refine W.aloadN X4 hx 31 (hb hby d13_30) rfl rfl rfl ?_
    refine W.getF X4 hx hZ 34 hown (hw _ (List.mem_of_getElem? (i := 73) rfl)) Via.refl rfl f_g (hb hby d13_31) rfl ?_
    intro T5 X5 e5
    refine W.nullN X5 hx 89 (hb hby d13_34) (by decide) (by decide) ?_
    refine W.aloadN X5 hx 90 (hb hby d13_89) rfl rfl rfl ?_
    refine W.getF X5 hx hZ 93 hown (hw _ (List.mem_of_getElem? (i := 98) rfl)) Via.refl e5 f_be (hb hby d13_90) rfl ?_
    intro T6 X6 e6
    refine W.iloadN X6 hx 94 (hb hby d13_93) rfl rfl ?_
    refine W.laload X6 hx hZ 95 i (.long (0 : Int64)) e6 A6 (own_ofNat (by omega)) (by omega) (congrArg Value.long hfb) (hb hby d13_94) rfl ?_
    refine W.lconst X6 hx 96 (0 : Int64) (hb hby d13_95) rfl rfl ?_
    refine W.lcmp X6 hx 97 (hb hby d13_96) rfl ?_
    refine W.lifLe X6 hx 111 100 (hb hby d13_97) (by decide) (by decide) rfl (fun q => ?_) (fun q => ?_)
    · skip
      refine W.aloadN X6 hx 112 (hb hby d13_111) rfl rfl rfl ?_
      refine W.getF X6 hx hZ 115 hown (hw _ (List.mem_of_getElem? (i := 100) rfl)) Via.refl e6 f_en (hb hby d13_112) rfl ?_
      intro T7 X7 e7
      refine W.nonnullN X7 hx 118 (hb hby d13_115) rfl ?_
      refine W.aloadN X7 hx 119 (hb hby d13_118) rfl rfl rfl ?_
      refine W.aloadN X7 hx 120 (hb hby d13_119) rfl rfl rfl ?_
      refine W.getF X7 hx hZ 123 hown (hw _ (List.mem_of_getElem? (i := 86) rfl)) Via.refl e7 f_m (hb hby d13_120) rfl ?_
      intro T8 X8 e8
      refine W.arrlen X8 hx hZ 124 e8 A1 (Int32.ofNat n) rfl (hb hby d13_123) rfl ?_
      refine W.newR X8 hx hZ 127 n 31 hown (hw _ (List.mem_of_getElem? (i := 121) rfl)) (hw _ (List.mem_of_getElem? (i := 138) rfl)) e8 (hb hby d13_124) (own_ofNat (by omega)) (by omega) (by decide) (by decide) (by decide) rfl ?_
      intro T9 h9 en q9 X9 e9 E9 A TA
      have ne_o_en : o ≠ en := fun q => by have := E.lt; rw [q, q9] at this; exact Nat.lt_irrefl _ this
      have ne_mb_en : mb ≠ en := fun q => by have := A1.lt; rw [q, q9] at this; exact Nat.lt_irrefl _ this
      have ne_bf_en : bf ≠ en := fun q => by have := A6.lt; rw [q, q9] at this; exact Nat.lt_irrefl _ this
      have ne_k_en : k ≠ en := fun q => by have := EK.lt; rw [q, q9] at this; exact Nat.lt_irrefl _ this
      have ne_qa_en : qa ≠ en := fun q => by have := Aq.lt; rw [q, q9] at this; exact Nat.lt_irrefl _ this
      have ne_pa_en : pa ≠ en := fun q => by have := Ap.lt; rw [q, q9] at this; exact Nat.lt_irrefl _ this
      have ge_en : n0 ≤ en := by have := z4; omega
      have gx_en : h0.size ≤ en := by have := KP.1; omega
      have E := E.ext E9
      have f_g := f_g.ext E9
      have f_m := f_m.ext E9
      have f_be := f_be.ext E9
      have f_en := f_en.ext E9
      have f_fp := f_fp.ext E9
      have A1 := A1.ext E9
      have A6 := A6.ext E9
      have SZ := SZ.ext E9
      have EK := EK.ext E9
      have h_q := h_q.ext E9
      have h_p := h_p.ext E9
      have h_e := h_e.ext E9
      have h_o := h_o.ext E9
      have h_t := h_t.ext E9
      have Aq := Aq.ext E9
      have Ap := Ap.ext E9
      have z9 : n0 ≤ h9.size := Nat.le_trans z4 E9.1
      have KP := KP.ext E9
      have A : IArr Z h9 en (.object "com/example/margrave/margrave/engine/Holding") n g := A.cong (fun j _ => hg j)
      refine W.putF X9 hx hZ 130 hown (hw _ (List.mem_of_getElem? (i := 100) rfl)) Via.refl e9 f_en E (Or.inl (hw _ (List.mem_of_getElem? (i := 101) rfl))) (hw _ (List.mem_of_getElem? (i := 1) rfl)) (ty := (.array (.object "com/example/margrave/margrave/engine/Holding"))) (by decide) rfl rfl (hb hby d13_127) rfl ?_
      intro T10 h10 X10 e10 W10 f_en
      have E := E.wr W10
      have f_g := Fld.other W10 f_g (Or.inr (slot_ne (Or.inl (hw _ (List.mem_of_getElem? (i := 74) rfl))) (Or.inl (hw _ (List.mem_of_getElem? (i := 101) rfl))) (by decide) (t := (.object "com/example/margrave/margrave/engine/LotGroups")) (t' := (.array (.object "com/example/margrave/margrave/engine/Holding"))) (by decide) (by decide)))
      have f_m := Fld.other W10 f_m (Or.inr (slot_ne (Or.inl (hw _ (List.mem_of_getElem? (i := 87) rfl))) (Or.inl (hw _ (List.mem_of_getElem? (i := 101) rfl))) (by decide) (t := (.array .int)) (t' := (.array (.object "com/example/margrave/margrave/engine/Holding"))) (by decide) (by decide)))
      have f_be := Fld.other W10 f_be (Or.inr (slot_ne (Or.inl (hw _ (List.mem_of_getElem? (i := 99) rfl))) (Or.inl (hw _ (List.mem_of_getElem? (i := 101) rfl))) (by decide) (t := (.array .long)) (t' := (.array (.object "com/example/margrave/margrave/engine/Holding"))) (by decide) (by decide)))
      have f_fp := Fld.other W10 f_fp (Or.inr (slot_ne (Or.inl (hw _ (List.mem_of_getElem? (i := 105) rfl))) (Or.inl (hw _ (List.mem_of_getElem? (i := 101) rfl))) (by decide) (t := (.array (.object "java/math/BigDecimal"))) (t' := (.array (.object "com/example/margrave/margrave/engine/Holding"))) (by decide) (by decide)))
      have A1 := A1.other W10 ne_o_mb.symm
      have A6 := A6.other W10 ne_o_bf.symm
      have SZ := SZ.wr W10
      have EK := EK.wr W10
      have h_q := Fld.other W10 h_q (Or.inl ne_o_k.symm)
      have h_p := Fld.other W10 h_p (Or.inl ne_o_k.symm)
      have h_e := Fld.other W10 h_e (Or.inl ne_o_k.symm)
      have h_o := Fld.other W10 h_o (Or.inl ne_o_k.symm)
      have h_t := Fld.other W10 h_t (Or.inl ne_o_k.symm)
      have Aq := Aq.other W10 ne_o_qa.symm
      have Ap := Ap.other W10 ne_o_pa.symm
      have A := A.other W10 ne_o_en.symm
      have TA := TA.wr W10
      have z10 : n0 ≤ h10.size := by rw [W10.size]; exact z9
      have KP := KP.wr W10 (by first | (refine Or.inl ?_; simp; done) | exact Or.inr gx_o)
      refine W.aloadN X10 hx 131 (hb hby d13_130) rfl rfl rfl ?_
      refine W.getF X10 hx hZ 134 hown (hw _ (List.mem_of_getElem? (i := 100) rfl)) Via.refl e10 f_en (hb hby d13_131) rfl ?_
      intro T11 X11 e11
      refine W.iloadN X11 hx 135 (hb hby d13_134) rfl rfl ?_
      refine W.aloadN X11 hx 136 (hb hby d13_135) rfl rfl rfl ?_
      refine W.aastore X11 hx hZ 137 i e11 A rfl (TA.sto (Ins.self EK)) (own_ofNat (by omega)) (by omega) (hb hby d13_136) rfl ?_
      intro T12 h12 X12 e12 W12 A
      have E := E.wr W12
      have f_g := Fld.other W12 f_g (Or.inl ne_o_en)
      have f_m := Fld.other W12 f_m (Or.inl ne_o_en)
      have f_be := Fld.other W12 f_be (Or.inl ne_o_en)
      have f_en := Fld.other W12 f_en (Or.inl ne_o_en)
      have f_fp := Fld.other W12 f_fp (Or.inl ne_o_en)
      have A1 := A1.other W12 ne_mb_en
      have A6 := A6.other W12 ne_bf_en
      have SZ := SZ.wr W12
      have EK := EK.wr W12
      have h_q := Fld.other W12 h_q (Or.inl ne_k_en)
      have h_p := Fld.other W12 h_p (Or.inl ne_k_en)
      have h_e := Fld.other W12 h_e (Or.inl ne_k_en)
      have h_o := Fld.other W12 h_o (Or.inl ne_k_en)
      have h_t := Fld.other W12 h_t (Or.inl ne_k_en)
      have Aq := Aq.other W12 ne_qa_en
      have Ap := Ap.other W12 ne_pa_en
      have TA := TA.wr W12
      have z12 : n0 ≤ h12.size := by rw [W12.size]; exact z10
      have KP := KP.wr W12 (by first | (refine Or.inl ?_; simp; done) | exact Or.inr gx_en)
      refine W.aloadN X12 hx 138 (hb hby d13_137) rfl rfl rfl ?_
      have S1 := S.skip (i := i) (k := k) (ev' := .ref en) (fun kk _ hlt z => by cases z; exact absurd hlt (Nat.not_lt.mpr gx_en))
      have S2 := S1.keep KP (fun j h9 hj kk e => by rw [upd_ne hj] at e; exact ninS (S.lt h9 (by omega) e).2.1 nin0)
      refine W.aret X12 hx hlk hret rfl rfl (hb hby d13_138) (by decide) (by decide) ?_
      rw [e12]
      exact ⟨k, qa, pa, .ref en, rfl, (Fr.app (Fr.app (Fr.app (Fr.app (Fr.nil _) (Fr.nil _)) N4) (fr1 ge_o)) (fr1 ge_en)), KP.1, ⟨ge_o, ge_bf, E, f_g, f_m, f_be, f_en, f_fp, A1, A6, ne_o_mb, ne_o_bf, ne_mb_bf⟩, Or.inr ⟨en, rfl, ge_en, A, TA, ne_o_en, ne_mb_en, ne_bf_en⟩, S2, ⟨EK, h_q, h_p, h_e, h_o, h_t, Aq, Ap⟩, gx_k, gx_qa, gx_pa, ne_k_qa, ne_k_pa, ne_qa_pa, SZ, fun en' e' => by cases e'; exact ⟨ne_k_en.symm, ne_qa_en.symm, ne_pa_en.symm⟩⟩
    · exact absurd q (by decide)
  · skip
    have KP : Keep h0 h0 [en] := Keep.refl _ _
    refine W.aloadN X0 hx 1 (hb hby d13_0) rfl rfl rfl ?_
    refine W.iloadN X0 hx 2 (hb hby d13_1) rfl rfl ?_
    refine W.callP X0 hx hZ 5 0 o [(.int (Int32.ofNat i))] hown (hw _ (List.mem_of_getElem? (i := 117) rfl)) (hw _ (List.mem_of_getElem? (i := 118) rfl)) (hw _ (List.mem_of_getElem? (i := 119) rfl)) (hw _ (List.mem_of_getElem? (i := 1) rfl)) (hw _ (List.mem_of_getElem? (i := 2) rfl)) (hw _ (List.mem_of_getElem? (i := 120) rfl)) (by decide) pd_4 rfl e0 E (rmE l Z a0 hw n0 o mb bf n fb (.ref en) g i .null h0 O HE0 (by omega) (by omega) hr rfl) (hb hby d13_2) (by rw [hml]; rfl) rfl rfl (by decide) (by decide) (by decide) (by decide) rfl ?_
    rintro v13 T13 L13 X13 ⟨rfl, e13, rfl⟩
    refine W.astoreN X13 hx 6 #[.val (.ref o), .val (.int (Int32.ofNat i)), .val .null, .val .null, .unset, .unset] (hb hby d13_5) rfl rfl rfl ?_
    refine W.aloadN X13 hx 7 (hb hby d13_6) rfl rfl rfl ?_
    refine W.nonnullN X13 hx 10 (hb hby d13_7) rfl ?_
    refine W.newO X13 hx hZ 13 hown (hw _ (List.mem_of_getElem? (i := 121) rfl)) (hw _ (List.mem_of_getElem? (i := 122) rfl)) (hw _ (List.mem_of_getElem? (i := 123) rfl)) e13 (hb hby d13_10) (by decide) (by decide) rfl ?_
    intro T14 h14 k q14 X14 e14 E14 EK DK
    have ne_o_k : o ≠ k := fun q => by have := E.lt; rw [q, q14] at this; exact Nat.lt_irrefl _ this
    have ne_mb_k : mb ≠ k := fun q => by have := A1.lt; rw [q, q14] at this; exact Nat.lt_irrefl _ this
    have ne_bf_k : bf ≠ k := fun q => by have := A6.lt; rw [q, q14] at this; exact Nat.lt_irrefl _ this
    have ne_en_k : en ≠ k := fun q => by have := A.lt; rw [q, q14] at this; exact Nat.lt_irrefl _ this
    have ge_k : n0 ≤ k := by have := Z0; omega
    have gx_k : h0.size ≤ k := by have := KP.1; omega
    have E := E.ext E14
    have f_g := f_g.ext E14
    have f_m := f_m.ext E14
    have f_be := f_be.ext E14
    have f_en := f_en.ext E14
    have f_fp := f_fp.ext E14
    have A1 := A1.ext E14
    have A6 := A6.ext E14
    have SZ := SZ.ext E14
    have A := A.ext E14
    have TA := TA.ext E14
    have z14 : n0 ≤ h14.size := Nat.le_trans Z0 E14.1
    have KP := KP.ext E14
    have h_q := DK (Or.inl (hw _ (List.mem_of_getElem? (i := 129) rfl))) (ty := (.array .long)) (by decide)
    have h_p := DK (Or.inl (hw _ (List.mem_of_getElem? (i := 137) rfl))) (ty := (.array (.object "java/math/BigDecimal"))) (by decide)
    have h_e := DK (Or.inl (hw _ (List.mem_of_getElem? (i := 146) rfl))) (ty := .int) (by decide)
    have h_o := DK (Or.inl (hw _ (List.mem_of_getElem? (i := 148) rfl))) (ty := .int) (by decide)
    have h_t := DK (Or.inl (hw _ (List.mem_of_getElem? (i := 154) rfl))) (ty := .long) (by decide)
    have h_c := DK (Or.inl (hw _ (List.mem_of_getElem? (i := 133) rfl))) (ty := (.object "java/math/BigDecimal")) (by decide)
    refine W.dup X14 hx 14 (hb hby d13_13) rfl rfl ?_
    refine W.aloadN X14 hx 15 (hb hby d13_14) rfl rfl rfl ?_
    refine W.getF X14 hx hZ 18 hown (hw _ (List.mem_of_getElem? (i := 73) rfl)) Via.refl e14 f_g (hb hby d13_15) rfl ?_
    intro T15 X15 e15
    refine W.nullN X15 hx 25 (hb hby d13_18) (by decide) (by decide) ?_
    refine W.iconst X15 hx 26 (0 : Int32) (hb hby d13_25) rfl rfl ?_
    have EK0 := EK
    refine W.callI X15 hx hZ 29 1 k [(.int (0 : Int32))] rfl hown (hw _ (List.mem_of_getElem? (i := 124) rfl)) (hw _ (List.mem_of_getElem? (i := 125) rfl)) (hw _ (List.mem_of_getElem? (i := 123) rfl)) (hw _ (List.mem_of_getElem? (i := 126) rfl)) (by decide) pd_6 rfl e15 (rmHI l Z a0 hw k bz h14 n0 z14 EK h_q h_p h_e h_o h_t h_c SZ ge_k) (hb hby d13_26) (by rw [hml]; rfl) rfl rfl (by decide) (by decide) (by decide) (by decide) rfl ?_
    rintro v16 T16 L16 X16 ⟨rfl, N16, K16, qa, pa, gq, gp, ne_k_qa, ne_k_pa, ne_qa_pa, I⟩
    have hle : h0.size ≤ h14.size := KP.1
    have ne_o_qa : o ≠ qa := Nat.ne_of_lt (Nat.lt_of_lt_of_le f_g.lt gq)
    have ne_mb_qa : mb ≠ qa := Nat.ne_of_lt (Nat.lt_of_lt_of_le A1.lt gq)
    have ne_bf_qa : bf ≠ qa := Nat.ne_of_lt (Nat.lt_of_lt_of_le A6.lt gq)
    have ne_en_qa : en ≠ qa := Nat.ne_of_lt (Nat.lt_of_lt_of_le A.lt gq)
    have ge_qa : n0 ≤ qa := Nat.le_trans z14 gq
    have gx_qa : h0.size ≤ qa := Nat.le_trans hle gq
    have ne_o_pa : o ≠ pa := Nat.ne_of_lt (Nat.lt_of_lt_of_le f_g.lt gp)
    have ne_mb_pa : mb ≠ pa := Nat.ne_of_lt (Nat.lt_of_lt_of_le A1.lt gp)
    have ne_bf_pa : bf ≠ pa := Nat.ne_of_lt (Nat.lt_of_lt_of_le A6.lt gp)
    have ne_en_pa : en ≠ pa := Nat.ne_of_lt (Nat.lt_of_lt_of_le A.lt gp)
    have ge_pa : n0 ≤ pa := Nat.le_trans z14 gp
    have gx_pa : h0.size ≤ pa := Nat.le_trans hle gp
    have SZ := Sta.keepE SZ K16 EK0
    have E := E.keep K16
    have f_g := f_g.keep K16 (ninS ne_o_k nin0)
    have f_m := f_m.keep K16 (ninS ne_o_k nin0)
    have f_be := f_be.keep K16 (ninS ne_o_k nin0)
    have f_en := f_en.keep K16 (ninS ne_o_k nin0)
    have f_fp := f_fp.keep K16 (ninS ne_o_k nin0)
    have A1 := A1.keep K16 (ninS ne_mb_k nin0)
    have A6 := A6.keep K16 (ninS ne_bf_k nin0)
    have A := A.keep K16 (ninS ne_en_k nin0)
    have TA := TA.keep K16 (ninS ne_en_k nin0)
    have z16 : n0 ≤ T16.heap.size := Nat.le_trans z14 K16.1
    have KP := KP.trans K16 (allS (Or.inr gx_k) all0)
    obtain ⟨EK, h_q, h_p, h_e, h_o, h_t, Aq, Ap⟩ := I
    refine W.astoreN X16 hx 30 #[.val (.ref o), .val (.int (Int32.ofNat i)), .val .null, .val (.ref k), .unset, .unset] (hb hby d13_29) rfl rfl rfl ?_
    refine W.aloadN X16 hx 31 (hb hby d13_30) rfl rfl rfl ?_
    refine W.getF X16 hx hZ 34 hown (hw _ (List.mem_of_getElem? (i := 73) rfl)) Via.refl rfl f_g (hb hby d13_31) rfl ?_
    intro T17 X17 e17
    refine W.nullN X17 hx 89 (hb hby d13_34) (by decide) (by decide) ?_
    refine W.aloadN X17 hx 90 (hb hby d13_89) rfl rfl rfl ?_
    refine W.getF X17 hx hZ 93 hown (hw _ (List.mem_of_getElem? (i := 98) rfl)) Via.refl e17 f_be (hb hby d13_90) rfl ?_
    intro T18 X18 e18
    refine W.iloadN X18 hx 94 (hb hby d13_93) rfl rfl ?_
    refine W.laload X18 hx hZ 95 i (.long (0 : Int64)) e18 A6 (own_ofNat (by omega)) (by omega) (congrArg Value.long hfb) (hb hby d13_94) rfl ?_
    refine W.lconst X18 hx 96 (0 : Int64) (hb hby d13_95) rfl rfl ?_
    refine W.lcmp X18 hx 97 (hb hby d13_96) rfl ?_
    refine W.lifLe X18 hx 111 100 (hb hby d13_97) (by decide) (by decide) rfl (fun q => ?_) (fun q => ?_)
    · skip
      refine W.aloadN X18 hx 112 (hb hby d13_111) rfl rfl rfl ?_
      refine W.getF X18 hx hZ 115 hown (hw _ (List.mem_of_getElem? (i := 100) rfl)) Via.refl e18 f_en (hb hby d13_112) rfl ?_
      intro T19 X19 e19
      refine W.nonnullR X19 hx 130 (hb hby d13_115) (by decide) (by decide) ?_
      refine W.aloadN X19 hx 131 (hb hby d13_130) rfl rfl rfl ?_
      refine W.getF X19 hx hZ 134 hown (hw _ (List.mem_of_getElem? (i := 100) rfl)) Via.refl e19 f_en (hb hby d13_131) rfl ?_
      intro T20 X20 e20
      refine W.iloadN X20 hx 135 (hb hby d13_134) rfl rfl ?_
      refine W.aloadN X20 hx 136 (hb hby d13_135) rfl rfl rfl ?_
      refine W.aastore X20 hx hZ 137 i e20 A rfl (TA.sto (Ins.self EK)) (own_ofNat (by omega)) (by omega) (hb hby d13_136) rfl ?_
      intro T21 h21 X21 e21 W21 A
      have E := E.wr W21
      have f_g := Fld.other W21 f_g (Or.inl ne_o_en)
      have f_m := Fld.other W21 f_m (Or.inl ne_o_en)
      have f_be := Fld.other W21 f_be (Or.inl ne_o_en)
      have f_en := Fld.other W21 f_en (Or.inl ne_o_en)
      have f_fp := Fld.other W21 f_fp (Or.inl ne_o_en)
      have A1 := A1.other W21 ne_mb_en
      have A6 := A6.other W21 ne_bf_en
      have SZ := SZ.wr W21
      have TA := TA.wr W21
      have EK := EK.wr W21
      have h_q := Fld.other W21 h_q (Or.inl ne_en_k.symm)
      have h_p := Fld.other W21 h_p (Or.inl ne_en_k.symm)
      have h_e := Fld.other W21 h_e (Or.inl ne_en_k.symm)
      have h_o := Fld.other W21 h_o (Or.inl ne_en_k.symm)
      have h_t := Fld.other W21 h_t (Or.inl ne_en_k.symm)
      have Aq := Aq.other W21 ne_en_qa.symm
      have Ap := Ap.other W21 ne_en_pa.symm
      have z21 : n0 ≤ h21.size := by rw [W21.size]; exact z16
      have KP := KP.wr W21 (by first | (refine Or.inl ?_; simp; done) | exact Or.inr gx_en)
      refine W.aloadN X21 hx 138 (hb hby d13_137) rfl rfl rfl ?_
      have S1 := S.skip (i := i) (k := k) (ev' := .ref en) (fun kk r _ => r)
      have S2 := S1.keep KP (fun j h9 hj kk e => by rw [upd_ne hj] at e; exact ninS (fun z => (S.lt h9 (by omega) e).2.2.2 (by rw [z])) nin0)
      refine W.aret X21 hx hlk hret rfl rfl (hb hby d13_138) (by decide) (by decide) ?_
      rw [e21]
      exact ⟨k, qa, pa, .ref en, rfl, (Fr.app (Fr.app (Fr.app (Fr.nil _) (Fr.nil _)) N16) (fr1 ge_en)), KP.1, ⟨ge_o, ge_bf, E, f_g, f_m, f_be, f_en, f_fp, A1, A6, ne_o_mb, ne_o_bf, ne_mb_bf⟩, Or.inr ⟨en, rfl, ge_en, A, TA, ne_o_en, ne_mb_en, ne_bf_en⟩, S2, ⟨EK, h_q, h_p, h_e, h_o, h_t, Aq, Ap⟩, gx_k, gx_qa, gx_pa, ne_k_qa, ne_k_pa, ne_qa_pa, SZ, fun en' e' => by cases e'; exact ⟨ne_en_k, ne_en_qa, ne_en_pa⟩⟩
    · exact absurd q (by decide)
theorem d12_0 : decode prog_82_method_12_code 0 = .ok (.aload_n 0, 1) := by decide +kernel
theorem d12_1 : decode prog_82_method_12_code 1 = .ok (.iload_n 1, 1) := by decide +kernel
theorem d12_2 : decode prog_82_method_12_code 2 = .ok (.aload_n 2, 1) := by decide +kernel
theorem d12_3 : decode prog_82_method_12_code 3 = .ok (.invokevirtual 109, 3) := by decide +kernel
theorem d12_6 : decode prog_82_method_12_code 6 = .ok (.astore 7, 2) := by decide +kernel
theorem d12_8 : decode prog_82_method_12_code 8 = .ok (.aload_n 0, 1) := by decide +kernel
theorem d12_9 : decode prog_82_method_12_code 9 = .ok (.getfield 32, 3) := by decide +kernel
theorem d12_12 : decode prog_82_method_12_code 12 = .ok (.ifnonnull 14, 3) := by decide +kernel
theorem d12_15 : decode prog_82_method_12_code 15 = .ok (.aload 7, 2) := by decide +kernel
theorem d12_17 : decode prog_82_method_12_code 17 = .ok (.aload_n 3, 1) := by decide +kernel
theorem d12_18 : decode prog_82_method_12_code 18 = .ok (.lload 4, 2) := by decide +kernel
theorem d12_20 : decode prog_82_method_12_code 20 = .ok (.invokevirtual 113, 3) := by decide +kernel
theorem d12_23 : decode prog_82_method_12_code 23 = .ok (.goto 20, 3) := by decide +kernel
theorem d12_26 : decode prog_82_method_12_code 26 = .ok (.aload 7, 2) := by decide +kernel
theorem d12_28 : decode prog_82_method_12_code 28 = .ok (.aload_n 0, 1) := by decide +kernel
theorem d12_29 : decode prog_82_method_12_code 29 = .ok (.getfield 32, 3) := by decide +kernel
theorem d12_32 : decode prog_82_method_12_code 32 = .ok (.iload 6, 2) := by decide +kernel
theorem d12_34 : decode prog_82_method_12_code 34 = .ok (.aload_n 3, 1) := by decide +kernel
theorem d12_35 : decode prog_82_method_12_code 35 = .ok (.invokevirtual 118, 3) := by decide +kernel
theorem d12_38 : decode prog_82_method_12_code 38 = .ok (.lload 4, 2) := by decide +kernel
theorem d12_40 : decode prog_82_method_12_code 40 = .ok (.invokevirtual 122, 3) := by decide +kernel
theorem d12_43 : decode prog_82_method_12_code 43 = .ok (.return_, 1) := by decide +kernel
theorem pn_12 : plainName "com/example/margrave/margrave/engine/Holdings" = true := by first | (simp [plainName, overriddenIn]; done) | decide +kernel
theorem ef_rmO (m : MethodId) (o : Addr) (i : Nat) (x : Int64) (u : Int32) : entryFrame m #[(.ref o), (.int (Int32.ofNat i)), .null, .null, (.long x), (.int u)] 8 = mkF m 0 #[.val (.ref o), .val (.int (Int32.ofNat i)), .val .null, .val .null, .val (.long x), .second, .val (.int u), .unset] [] := by first | (simp [entryFrame, mkF, argsToLocals, Value.category]; done) | rfl
set_option maxRecDepth 65536 in
set_option maxHeartbeats 40000000 in
theorem rmO (l : Launch) (Z : State) (a0 : Array Value) (hw : ∀ d ∈ tables_1, d.before a0 Z = true) (o : Addr) (n : Nat) (fb : Nat → Int64) (g : Nat → Value) (xs : Nat → Int64) (i : Nat) (x : Int64) (u : Int32) (bz : Addr) (h0 : Heap) (n0 : Nat) (Z0 : n0 ≤ h0.size) (J : HJ Z h0 n0 o n fb g xs) (hi : i ≤ 15) (hn : 16 ≤ n ∧ n ≤ 31) (SZ : Sta Z h0 "java/math/BigDecimal" "ZERO" "Ljava/math/BigDecimal;" (.ref bz)) (hr : g i = .null) (hfb : fb i = 0) :
    Con l Z (⟨"com/example/margrave/margrave/engine/Holdings", "open", "(ILjava/math/BigDecimal;Ljava/math/BigDecimal;JI)V"⟩ : MethodName) prog_82_method_12_code 8 none [] ({ frames := 3, cells := 4, slots := 40, locals := 60 } : Room) #[(.ref o), (.int (Int32.ofNat i)), .null, .null, (.long x), (.int u)] h0 (fun v h L => v = none ∧ Fr n0 L ∧ h0.size ≤ h.size ∧ Sta Z h "java/math/BigDecimal" "ZERO" "Ljava/math/BigDecimal;" (.ref bz) ∧ ∃ k : Addr, HJ Z h n0 o n fb (upd g i (.ref k)) (up xs i x)) := by
  refine Con.of (plainFor_of_name pn_12) ?_
  intro p e s m below meth c s₁ hx hby hml hown hnm hret hlk hZ X0 e0
  refine Wp.enter (ef_rmO m o i x u) ?_
  obtain ⟨mb, bf, ev, O, HEE, S⟩ := J
  refine W.aloadN X0 hx 1 (hb hby d12_0) rfl rfl rfl ?_
  refine W.iloadN X0 hx 2 (hb hby d12_1) rfl rfl ?_
  refine W.aloadN X0 hx 3 (hb hby d12_2) rfl rfl rfl ?_
  refine W.callP X0 hx hZ 6 0 o [(.int (Int32.ofNat i)), .null] hown (hw _ (List.mem_of_getElem? (i := 113) rfl)) (hw _ (List.mem_of_getElem? (i := 114) rfl)) (hw _ (List.mem_of_getElem? (i := 115) rfl)) (hw _ (List.mem_of_getElem? (i := 1) rfl)) (hw _ (List.mem_of_getElem? (i := 2) rfl)) (hw _ (List.mem_of_getElem? (i := 116) rfl)) (by decide) pd_7 rfl e0 O.2.2.1 (rmTr l Z a0 hw o mb bf n fb ev g i xs bz h0 n0 Z0 O HEE S SZ hi hn hr hfb) (hb hby d12_3) (by rw [hml]; rfl) rfl rfl (by decide) (by decide) (by decide) (by decide) rfl ?_
  rintro v1 T1 L1 X1 ⟨k, qa, pa, ev', rfl, N1, hz1, O', HE', S', I, gk, gq, gp, ne_k_qa, ne_k_pa, ne_qa_pa, SZ, hen⟩
  have z1 : n0 ≤ T1.heap.size := Nat.le_trans Z0 hz1
  have F := O'.2.2.2.1
  refine W.astore X1 hx 8 #[.val (.ref o), .val (.int (Int32.ofNat i)), .val .null, .val .null, .val (.long x), .second, .val (.int u), .val (.ref k)] (hb hby d12_6) rfl rfl rfl ?_
  refine W.aloadN X1 hx 9 (hb hby d12_8) rfl rfl rfl ?_
  refine W.getF X1 hx hZ 12 hown (hw _ (List.mem_of_getElem? (i := 73) rfl)) Via.refl rfl F (hb hby d12_9) rfl ?_
  intro T2 X2 e2
  refine W.nonnullN X2 hx 15 (hb hby d12_12) rfl ?_
  refine W.aload X2 hx 17 (hb hby d12_15) rfl rfl rfl ?_
  refine W.aloadN X2 hx 18 (hb hby d12_17) rfl rfl rfl ?_
  refine W.lload X2 hx 20 (hb hby d12_18) rfl rfl ?_
  refine W.callV X2 hx hZ 23 0 k [.null, (.long x)] hown (hw _ (List.mem_of_getElem? (i := 140) rfl)) (hw _ (List.mem_of_getElem? (i := 141) rfl)) (hw _ (List.mem_of_getElem? (i := 143) rfl)) (hw _ (List.mem_of_getElem? (i := 142) rfl)) (hw _ (List.mem_of_getElem? (i := 123) rfl)) (hw _ (List.mem_of_getElem? (i := 144) rfl)) (by decide) pd_8 rfl e2 I.1 (rmA l Z a0 hw k qa pa bz x T1.heap n0 z1 SZ I (Nat.le_trans Z0 gk) (Nat.le_trans Z0 gq) (Nat.le_trans Z0 gp) ne_k_qa ne_k_pa ne_qa_pa) (hb hby d12_20) (by rw [hml]; rfl) rfl rfl (by decide) (by decide) (by decide) (by decide) rfl ?_
  rintro v3 T3 L3 X3 ⟨rfl, N3, K3, SZ, I2⟩
  have lo : o < h0.size := O.2.2.1.lt
  have lm : mb < h0.size := O.2.2.2.2.2.2.2.2.1.lt
  have lb : bf < h0.size := O.2.2.2.2.2.2.2.2.2.1.lt
  have fr : ∀ y : Addr, y < h0.size → y ∉ [k, pa, qa] := fun y hy => ninS (Nat.ne_of_lt (Nat.lt_of_lt_of_le hy gk)) (ninS (Nat.ne_of_lt (Nat.lt_of_lt_of_le hy gp)) (ninS (Nat.ne_of_lt (Nat.lt_of_lt_of_le hy gq)) nin0))
  have O2 := O'.keep K3 (fr o lo) (fr mb lm) (fr bf lb)
  have HE2 := HE'.keep K3 (fun en e => ninS (hen en e).1 (ninS (hen en e).2.2 (ninS (hen en e).2.1 nin0)))
  have S2 := S'.keep K3 (fun j h9 hj kk e => by rw [upd_ne hj] at e; exact fr kk (S.lt h9 (by omega) e).1)
  refine W.goto X3 hx 43 (hb hby d12_23) (by decide) (by decide) ?_
  refine W.vret X3 hx hlk hret (hb hby d12_43) (by decide) (by decide) ?_
  exact ⟨rfl, (Fr.app (Fr.app (Fr.nil _) N1) N3), Nat.le_trans hz1 K3.1, SZ, k, mb, bf, ev', O2, HE2, S2.fill I2 (Nat.ne_of_lt (Nat.lt_of_lt_of_le lo gk)).symm (Nat.ne_of_lt (Nat.lt_of_lt_of_le lb gk)).symm (fun e => (hen k e).1 rfl)⟩
theorem pn_0 : plainName "com/example/margrave/margrave/engine/HoldingsReleasePinLaw" = true := by first | (simp [plainName, overriddenIn]; done) | decide +kernel
theorem ef_rm0 (m : MethodId) (p1 : Int32) (p2 : Int32) (p3 : Int64) (p4 : Int64) (p5 : Int64) (p6 : Int32) : entryFrame m #[(.int p1), (.int p2), (.long p3), (.long p4), (.long p5), (.int p6)] maxLocals = mkF m 0 #[.val (.int p1), .val (.int p2), .val (.long p3), .second, .val (.long p4), .second, .val (.long p5), .second, .val (.int p6), .unset, .unset, .unset, .unset, .unset, .unset, .unset, .unset] [] := by first | (simp [entryFrame, mkF, argsToLocals, Value.category, maxLocals]; done) | rfl
set_option maxRecDepth 65536 in
set_option maxHeartbeats 40000000 in
theorem rm0 (l : Launch) (Z : State) (a0 : Array Value) (hw : ∀ d ∈ tables_1, d.before a0 Z = true) (ws : List Jvm.Cond) (p1 p2 : Int32) (p3 p4 p5 : Int64) (p6 : Int32) (dv bz : Addr) (h0 : Heap) (n0 : Nat) (Z0 : n0 ≤ h0.size) (SD : Sta Z h0 "java/util/ArrayList" "DEFAULTCAPACITY_EMPTY_ELEMENTDATA" "[Ljava/lang/Object;" (.ref dv)) (SZ : Sta Z h0 "java/math/BigDecimal" "ZERO" "Ljava/math/BigDecimal;" (.ref bz)) :
    Con l Z x code maxLocals ret ws room_1 #[(.int p1), (.int p2), (.long p3), (.long p4), (.long p5), (.int p6)] h0 (fun v h L => v = some (.int 1) ∧ Fr n0 L) := by
  refine Con.of (plainFor_of_name pn_0) ?_
  intro p e s m below meth c s₁ hx hby hml hown hnm hret hlk hZ X0 e0
  refine Wp.enter (ef_rm0 m p1 p2 p3 p4 p5 p6) ?_
  obtain ⟨na, hna, ena⟩ := own_and p1 15 (by decide)
  have hna : na ≤ 15 := by have e : (15 : Int32).toInt = 15 := rfl; omega
  have ena := own_ieq ena
  obtain ⟨nb, hnb, enb⟩ := own_and p2 15 (by decide)
  have hnb : nb ≤ 15 := by have e : (15 : Int32).toInt = 15 := rfl; omega
  have enb := own_ieq enb
  refine W.iloadN X0 hx 1 (hb hby at_0) rfl rfl ?_
  refine W.bipush X0 hx 3 (15 : Int32) (hb hby at_1) rfl rfl ?_
  refine W.iand X0 hx 4 (hb hby at_3) rfl ?_
  rw [ena]
  refine W.istore X0 hx 6 #[.val (.int p1), .val (.int p2), .val (.long p3), .second, .val (.long p4), .second, .val (.long p5), .second, .val (.int p6), .val (.int (Int32.ofNat na)), .unset, .unset, .unset, .unset, .unset, .unset, .unset] (hb hby at_4) rfl rfl ?_
  refine W.iloadN X0 hx 7 (hb hby at_6) rfl rfl ?_
  refine W.bipush X0 hx 9 (15 : Int32) (hb hby at_7) rfl rfl ?_
  refine W.iand X0 hx 10 (hb hby at_9) rfl ?_
  rw [enb]
  refine W.istore X0 hx 12 #[.val (.int p1), .val (.int p2), .val (.long p3), .second, .val (.long p4), .second, .val (.long p5), .second, .val (.int p6), .val (.int (Int32.ofNat na)), .val (.int (Int32.ofNat nb)), .unset, .unset, .unset, .unset, .unset, .unset] (hb hby at_10) rfl rfl ?_
  refine W.iload X0 hx 14 (hb hby at_12) rfl rfl ?_
  refine W.iconst X0 hx 15 (1 : Int32) (hb hby at_14) rfl rfl ?_
  refine W.iand X0 hx 16 (hb hby at_15) rfl ?_
  refine W.ifEq X0 hx 23 19 (hb hby at_16) (by decide) (by decide) rfl (fun q => ?_) (fun q => ?_)
  · skip
    refine W.iconst X0 hx 24 (0 : Int32) (hb hby at_23) rfl rfl ?_
    refine W.istore X0 hx 26 #[.val (.int p1), .val (.int p2), .val (.long p3), .second, .val (.long p4), .second, .val (.long p5), .second, .val (.int p6), .val (.int (Int32.ofNat na)), .val (.int (Int32.ofNat nb)), .val (.int (0 : Int32)), .unset, .unset, .unset, .unset, .unset] (hb hby at_24) rfl rfl ?_
    refine W.iload X0 hx 28 (hb hby at_26) rfl rfl ?_
    refine W.iconst X0 hx 29 (2 : Int32) (hb hby at_28) rfl rfl ?_
    refine W.iand X0 hx 30 (hb hby at_29) rfl ?_
    refine W.ifEq X0 hx 44 33 (hb hby at_30) (by decide) (by decide) rfl (fun q => ?_) (fun q => ?_)
    · skip
      refine W.iconst X0 hx 45 (0 : Int32) (hb hby at_44) rfl rfl ?_
      refine W.istore X0 hx 47 #[.val (.int p1), .val (.int p2), .val (.long p3), .second, .val (.long p4), .second, .val (.long p5), .second, .val (.int p6), .val (.int (Int32.ofNat na)), .val (.int (Int32.ofNat nb)), .val (.int (0 : Int32)), .val (.int (0 : Int32)), .unset, .unset, .unset, .unset] (hb hby at_45) rfl rfl ?_
      refine W.newO X0 hx hZ 50 hown (hw _ (List.mem_of_getElem? (i := 0) rfl)) (hw _ (List.mem_of_getElem? (i := 1) rfl)) (hw _ (List.mem_of_getElem? (i := 2) rfl)) e0 (hb hby at_47) (by decide) (by decide) rfl ?_
      intro T1 h1 o q1 X1 e1 E1 E D
      have ge_o : n0 ≤ o := by have := Z0; omega
      have SD := SD.ext E1
      have SZ := SZ.ext E1
      have z1 : n0 ≤ h1.size := Nat.le_trans Z0 E1.1
      have i_me := D (Or.inr (hw _ (List.mem_of_getElem? (i := 64) rfl))) (ty := (.object "com/example/margrave/margrave/engine/Holdings$Numbering")) (by decide)
      have i_cl := D (Or.inr (hw _ (List.mem_of_getElem? (i := 66) rfl))) (ty := (.object "com/example/margrave/margrave/engine/Holdings$Numbering")) (by decide)
      have i_co := D (Or.inr (hw _ (List.mem_of_getElem? (i := 68) rfl))) (ty := (.object "com/example/margrave/margrave/engine/Holdings$Numbering")) (by decide)
      have i_io := D (Or.inl (hw _ (List.mem_of_getElem? (i := 70) rfl))) (ty := .boolean) (by decide)
      have i_de := D (Or.inr (hw _ (List.mem_of_getElem? (i := 72) rfl))) (ty := .boolean) (by decide)
      have i_ha := D (Or.inl (hw _ (List.mem_of_getElem? (i := 76) rfl))) (ty := (.object "java/util/function/LongBinaryOperator")) (by decide)
      have f_m := D (Or.inl (hw _ (List.mem_of_getElem? (i := 87) rfl))) (ty := (.array .int)) (by decide)
      have f_cl := D (Or.inl (hw _ (List.mem_of_getElem? (i := 89) rfl))) (ty := (.array .int)) (by decide)
      have f_co := D (Or.inl (hw _ (List.mem_of_getElem? (i := 91) rfl))) (ty := (.array .int)) (by decide)
      have f_si := D (Or.inl (hw _ (List.mem_of_getElem? (i := 94) rfl))) (ty := (.array .byte)) (by decide)
      have f_pu := D (Or.inl (hw _ (List.mem_of_getElem? (i := 96) rfl))) (ty := (.array .byte)) (by decide)
      have f_be := D (Or.inl (hw _ (List.mem_of_getElem? (i := 99) rfl))) (ty := (.array .long)) (by decide)
      have f_en := D (Or.inl (hw _ (List.mem_of_getElem? (i := 101) rfl))) (ty := (.array (.object "com/example/margrave/margrave/engine/Holding"))) (by decide)
      have f_fe := D (Or.inl (hw _ (List.mem_of_getElem? (i := 103) rfl))) (ty := (.array .long)) (by decide)
      have f_fp := D (Or.inl (hw _ (List.mem_of_getElem? (i := 105) rfl))) (ty := (.array (.object "java/math/BigDecimal"))) (by decide)
      have f_ix := D (Or.inl (hw _ (List.mem_of_getElem? (i := 107) rfl))) (ty := (.object "com/example/margrave/margrave/engine/HashIndex")) (by decide)
      have f_g := D (Or.inl (hw _ (List.mem_of_getElem? (i := 74) rfl))) (ty := (.object "com/example/margrave/margrave/engine/LotGroups")) (by decide)
      refine W.dup X1 hx 51 (hb hby at_50) rfl rfl ?_
      refine W.iload X1 hx 53 (hb hby at_51) rfl rfl ?_
      refine W.iconst X1 hx 54 (2 : Int32) (hb hby at_53) rfl rfl ?_
      refine W.iushr X1 hx 55 (hb hby at_54) rfl ?_
      refine W.bipush X1 hx 57 (31 : Int32) (hb hby at_55) rfl rfl ?_
      obtain ⟨ex, hex, eex⟩ := own_and ((p6).toUInt32 >>> ((2 : Int32) &&& 31).toUInt32).toInt32 31 (by decide)
      have hex : ex ≤ 31 := by have e : (31 : Int32).toInt = 31 := rfl; omega
      have eex := own_ieq eex
      refine W.iand X1 hx 58 (hb hby at_57) rfl ?_
      rw [eex]
      obtain ⟨n, hn⟩ : ∃ z : Nat, z = if ex < 16 then 16 else ex := ⟨_, rfl⟩
      have hn2 : 16 ≤ n ∧ n ≤ 31 := by split at hn <;> omega
      have EO := E
      refine W.callI X1 hx hZ 61 1 o [(.int (Int32.ofNat ex))] rfl hown (hw _ (List.mem_of_getElem? (i := 3) rfl)) (hw _ (List.mem_of_getElem? (i := 4) rfl)) (hw _ (List.mem_of_getElem? (i := 2) rfl)) (hw _ (List.mem_of_getElem? (i := 5) rfl)) (by decide) pd_2 rfl e1 (rmI1 l Z a0 hw o dv ex n h1 n0 z1 E i_me i_cl i_co i_io i_de i_ha f_m f_cl f_co f_si f_pu f_be f_en f_fe f_fp f_ix f_g SD hn hex ge_o) (hb hby at_58) (by rw [hml]; rfl) rfl rfl (by decide) (by decide) (by decide) (by decide) rfl ?_
      rintro v2 T2 L2 X2 ⟨rfl, N2, K2, mb, bf, O2⟩
      have SZ := Sta.keepE SZ K2 EO
      have z2 : n0 ≤ T2.heap.size := Nat.le_trans z1 K2.1
      have J0 : HJ Z T2.heap n0 o n (fun _ : Nat => (0 : Int64)) (fun _ : Nat => Value.null) (fun _ : Nat => (0 : Int64)) := ⟨mb, bf, .null, O2, Or.inl ⟨rfl, fun _ => rfl⟩, fun _ _ _ => Or.inl rfl⟩
      refine W.astore X2 hx 63 #[.val (.int p1), .val (.int p2), .val (.long p3), .second, .val (.long p4), .second, .val (.long p5), .second, .val (.int p6), .val (.int (Int32.ofNat na)), .val (.int (Int32.ofNat nb)), .val (.int (0 : Int32)), .val (.int (0 : Int32)), .val (.ref o), .unset, .unset, .unset] (hb hby at_61) rfl rfl rfl ?_
      refine W.iload X2 hx 65 (hb hby at_63) rfl rfl ?_
      refine W.ifEq X2 hx 79 68 (hb hby at_65) (by decide) (by decide) rfl (fun q => ?_) (fun q => ?_)
      · skip
        refine W.iload X2 hx 81 (hb hby at_79) rfl rfl ?_
        refine W.ifEq X2 hx 96 84 (hb hby at_81) (by decide) (by decide) rfl (fun q => ?_) (fun q => ?_)
        · skip
          refine W.aload X2 hx 98 (hb hby at_96) rfl rfl rfl ?_
          refine W.iload X2 hx 100 (hb hby at_98) rfl rfl ?_
          refine W.iconst X2 hx 101 (0 : Int32) (hb hby at_100) rfl rfl ?_
          refine W.anull X2 hx 102 (hb hby at_101) rfl ?_
          refine W.lload X2 hx 104 (hb hby at_102) rfl rfl ?_
          refine W.callV X2 hx hZ 107 0 o [(.int (Int32.ofNat na)), (.int (0 : Int32)), .null, (.long p5)] hown (hw _ (List.mem_of_getElem? (i := 155) rfl)) (hw _ (List.mem_of_getElem? (i := 156) rfl)) (hw _ (List.mem_of_getElem? (i := 158) rfl)) (hw _ (List.mem_of_getElem? (i := 157) rfl)) (hw _ (List.mem_of_getElem? (i := 2) rfl)) (hw _ (List.mem_of_getElem? (i := 159) rfl)) (by decide) pd_9 rfl rfl J0.exa (rmB l Z a0 hw o n (fun _ : Nat => (0 : Int64)) (fun _ : Nat => Value.null) (fun _ : Nat => (0 : Int64)) na p5 T2.heap n0 z2 J0 hna hn2) (hb hby at_104) (by rw [hml]; rfl) rfl rfl (by decide) (by decide) (by decide) (by decide) rfl ?_
          rintro v3 T3 L3 X3 ⟨rfl, N3, hz3, JH⟩
          have z3 : n0 ≤ T3.heap.size := Nat.le_trans z2 hz3
          have gA : (fun _ : Nat => Value.null) na = .null := rfl
          have fA : (up (fun _ : Nat => (0 : Int64)) na ((fun _ : Nat => (0 : Int64)) na + p5)) na = p5 := by rw [up_same]; exact Int64.zero_add p5
          refine W.aload X3 hx 109 (hb hby at_107) rfl rfl rfl ?_
          refine W.iload X3 hx 111 (hb hby at_109) rfl rfl ?_
          refine W.callV X3 hx hZ 114 0 o [(.int (Int32.ofNat na))] hown (hw _ (List.mem_of_getElem? (i := 160) rfl)) (hw _ (List.mem_of_getElem? (i := 161) rfl)) (hw _ (List.mem_of_getElem? (i := 163) rfl)) (hw _ (List.mem_of_getElem? (i := 162) rfl)) (hw _ (List.mem_of_getElem? (i := 2) rfl)) (hw _ (List.mem_of_getElem? (i := 164) rfl)) (by decide) pd_10 rfl rfl JH.exa (rmT l Z a0 hw n0 o n (up (fun _ : Nat => (0 : Int64)) na ((fun _ : Nat => (0 : Int64)) na + p5)) (fun _ : Nat => Value.null) (fun _ : Nat => (0 : Int64)) na (0 : Int32) T3.heap JH hna hn2 (Or.inl ⟨gA, rfl⟩)) (hb hby at_111) (by rw [hml]; rfl) rfl rfl (by decide) (by decide) (by decide) (by decide) rfl ?_
          rintro v4 T4 L4 X4 ⟨rfl, e4, rfl⟩
          refine W.iload X4 hx 116 (hb hby at_114) rfl rfl ?_
          refine W.icmpNe X4 hx 145 119 (hb hby at_116) (by decide) (by decide) rfl (fun q => ?_) (fun q => ?_)
          · exact absurd rfl q
          · skip
            refine W.aload X4 hx 121 (hb hby at_119) rfl rfl rfl ?_
            refine W.iload X4 hx 123 (hb hby at_121) rfl rfl ?_
            refine W.callV X4 hx hZ 126 0 o [(.int (Int32.ofNat na))] hown (hw _ (List.mem_of_getElem? (i := 165) rfl)) (hw _ (List.mem_of_getElem? (i := 166) rfl)) (hw _ (List.mem_of_getElem? (i := 168) rfl)) (hw _ (List.mem_of_getElem? (i := 167) rfl)) (hw _ (List.mem_of_getElem? (i := 2) rfl)) (hw _ (List.mem_of_getElem? (i := 169) rfl)) (by decide) pd_11 rfl e4 JH.exa (rmL l Z a0 hw n0 o n (up (fun _ : Nat => (0 : Int64)) na ((fun _ : Nat => (0 : Int64)) na + p5)) (fun _ : Nat => Value.null) (fun _ : Nat => (0 : Int64)) na p5 T3.heap JH hna hn2 (Or.inl ⟨gA, fA⟩)) (hb hby at_123) (by rw [hml]; rfl) rfl rfl (by decide) (by decide) (by decide) (by decide) rfl ?_
            rintro v5 T5 L5 X5 ⟨rfl, e5, rfl⟩
            refine W.iload X5 hx 128 (hb hby at_126) rfl rfl ?_
            refine W.ifEq X5 hx 135 131 (hb hby at_128) (by decide) (by decide) rfl (fun q => ?_) (fun q => ?_)
            · skip
              refine W.lload X5 hx 137 (hb hby at_135) rfl rfl ?_
              refine W.lcmp X5 hx 138 (hb hby at_137) rfl ?_
              refine W.lifNe X5 hx 145 141 (hb hby at_138) (by decide) (by decide) rfl (fun q => ?_) (fun q => ?_)
              · exact absurd rfl q
              · skip
                refine W.iconst X5 hx 142 (1 : Int32) (hb hby at_141) rfl rfl ?_
                refine W.goto X5 hx 146 (hb hby at_142) (by decide) (by decide) ?_
                refine W.istore X5 hx 148 #[.val (.int p1), .val (.int p2), .val (.long p3), .second, .val (.long p4), .second, .val (.long p5), .second, .val (.int p6), .val (.int (Int32.ofNat na)), .val (.int (Int32.ofNat nb)), .val (.int (0 : Int32)), .val (.int (0 : Int32)), .val (.ref o), .val (.int (1 : Int32)), .unset, .unset] (hb hby at_146) rfl rfl ?_
                refine W.aload X5 hx 150 (hb hby at_148) rfl rfl rfl ?_
                refine W.iload X5 hx 152 (hb hby at_150) rfl rfl ?_
                refine W.callV X5 hx hZ 155 0 o [(.int (Int32.ofNat na))] hown (hw _ (List.mem_of_getElem? (i := 175) rfl)) (hw _ (List.mem_of_getElem? (i := 176) rfl)) (hw _ (List.mem_of_getElem? (i := 178) rfl)) (hw _ (List.mem_of_getElem? (i := 177) rfl)) (hw _ (List.mem_of_getElem? (i := 2) rfl)) (hw _ (List.mem_of_getElem? (i := 179) rfl)) (by decide) pd_2 rfl e5 JH.exa (rmR l Z a0 hw o n (up (fun _ : Nat => (0 : Int64)) na ((fun _ : Nat => (0 : Int64)) na + p5)) (fun _ : Nat => Value.null) (fun _ : Nat => (0 : Int64)) na T3.heap n0 z3 JH hna hn2) (hb hby at_152) (by rw [hml]; rfl) rfl rfl (by decide) (by decide) (by decide) (by decide) rfl ?_
                rintro v6 T6 L6 X6 ⟨rfl, N6, hz6, JR⟩
                have z6 : n0 ≤ T6.heap.size := Nat.le_trans z3 hz6
                refine W.aload X6 hx 157 (hb hby at_155) rfl rfl rfl ?_
                refine W.iload X6 hx 159 (hb hby at_157) rfl rfl ?_
                refine W.callV X6 hx hZ 162 0 o [(.int (Int32.ofNat na))] hown (hw _ (List.mem_of_getElem? (i := 160) rfl)) (hw _ (List.mem_of_getElem? (i := 161) rfl)) (hw _ (List.mem_of_getElem? (i := 163) rfl)) (hw _ (List.mem_of_getElem? (i := 162) rfl)) (hw _ (List.mem_of_getElem? (i := 2) rfl)) (hw _ (List.mem_of_getElem? (i := 164) rfl)) (by decide) pd_10 rfl rfl JR.exa (rmT l Z a0 hw n0 o n (up (fun _ : Nat => (0 : Int64)) na ((fun _ : Nat => (0 : Int64)) na + p5)) (upd (fun _ : Nat => Value.null) na .null) (fun _ : Nat => (0 : Int64)) na (0 : Int32) T6.heap JR hna hn2 (Or.inl ⟨upd_same _ _ _, rfl⟩)) (hb hby at_159) (by rw [hml]; rfl) rfl rfl (by decide) (by decide) (by decide) (by decide) rfl ?_
                rintro v7 T7 L7 X7 ⟨rfl, e7, rfl⟩
                refine W.ifNe X7 hx 182 165 (hb hby at_162) (by decide) (by decide) rfl (fun q => ?_) (fun q => ?_)
                · exact absurd rfl q
                · skip
                  refine W.aload X7 hx 167 (hb hby at_165) rfl rfl rfl ?_
                  refine W.iload X7 hx 169 (hb hby at_167) rfl rfl ?_
                  refine W.callV X7 hx hZ 172 0 o [(.int (Int32.ofNat na))] hown (hw _ (List.mem_of_getElem? (i := 165) rfl)) (hw _ (List.mem_of_getElem? (i := 166) rfl)) (hw _ (List.mem_of_getElem? (i := 168) rfl)) (hw _ (List.mem_of_getElem? (i := 167) rfl)) (hw _ (List.mem_of_getElem? (i := 2) rfl)) (hw _ (List.mem_of_getElem? (i := 169) rfl)) (by decide) pd_11 rfl e7 JR.exa (rmL l Z a0 hw n0 o n (up (fun _ : Nat => (0 : Int64)) na ((fun _ : Nat => (0 : Int64)) na + p5)) (upd (fun _ : Nat => Value.null) na .null) (fun _ : Nat => (0 : Int64)) na p5 T6.heap JR hna hn2 (Or.inl ⟨upd_same _ _ _, fA⟩)) (hb hby at_169) (by rw [hml]; rfl) rfl rfl (by decide) (by decide) (by decide) (by decide) rfl ?_
                  rintro v8 T8 L8 X8 ⟨rfl, e8, rfl⟩
                  refine W.lload X8 hx 174 (hb hby at_172) rfl rfl ?_
                  refine W.lcmp X8 hx 175 (hb hby at_174) rfl ?_
                  refine W.lifNe X8 hx 182 178 (hb hby at_175) (by decide) (by decide) rfl (fun q => ?_) (fun q => ?_)
                  · exact absurd rfl q
                  · skip
                    refine W.iconst X8 hx 179 (1 : Int32) (hb hby at_178) rfl rfl ?_
                    refine W.goto X8 hx 183 (hb hby at_179) (by decide) (by decide) ?_
                    refine W.istore X8 hx 185 #[.val (.int p1), .val (.int p2), .val (.long p3), .second, .val (.long p4), .second, .val (.long p5), .second, .val (.int p6), .val (.int (Int32.ofNat na)), .val (.int (Int32.ofNat nb)), .val (.int (0 : Int32)), .val (.int (0 : Int32)), .val (.ref o), .val (.int (1 : Int32)), .val (.int (1 : Int32)), .unset] (hb hby at_183) rfl rfl ?_
                    refine W.iload X8 hx 187 (hb hby at_185) rfl rfl ?_
                    refine W.iload X8 hx 189 (hb hby at_187) rfl rfl ?_
                    refine W.icmpEq X8 hx 226 192 (hb hby at_189) (by decide) (by decide) rfl (fun q => ?_) (fun q => ?_)
                    · skip
                      refine W.iconst X8 hx 227 (1 : Int32) (hb hby at_226) rfl rfl ?_
                      refine W.goto X8 hx 231 (hb hby at_227) (by decide) (by decide) ?_
                      refine W.istore X8 hx 233 #[.val (.int p1), .val (.int p2), .val (.long p3), .second, .val (.long p4), .second, .val (.long p5), .second, .val (.int p6), .val (.int (Int32.ofNat na)), .val (.int (Int32.ofNat nb)), .val (.int (0 : Int32)), .val (.int (0 : Int32)), .val (.ref o), .val (.int (1 : Int32)), .val (.int (1 : Int32)), .val (.int (1 : Int32))] (hb hby at_231) rfl rfl ?_
                      refine W.iload X8 hx 235 (hb hby at_233) rfl rfl ?_
                      refine W.ifEq X8 hx 252 238 (hb hby at_235) (by decide) (by decide) rfl (fun q => ?_) (fun q => ?_)
                      · exact absurd q (by decide)
                      · skip
                        refine W.iload X8 hx 240 (hb hby at_238) rfl rfl ?_
                        refine W.ifEq X8 hx 252 243 (hb hby at_240) (by decide) (by decide) rfl (fun q => ?_) (fun q => ?_)
                        · exact absurd q (by decide)
                        · skip
                          refine W.iload X8 hx 245 (hb hby at_243) rfl rfl ?_
                          refine W.ifEq X8 hx 252 248 (hb hby at_245) (by decide) (by decide) rfl (fun q => ?_) (fun q => ?_)
                          · exact absurd q (by decide)
                          · skip
                            refine W.iconst X8 hx 249 (1 : Int32) (hb hby at_248) rfl rfl ?_
                            refine W.goto X8 hx 253 (hb hby at_249) (by decide) (by decide) ?_
                            refine W.nret X8 hx hlk (t := .boolean) hret (by simp) (hb hby at_253) (by decide) (by decide) ?_
                            exact ⟨rfl, (Fr.app (Fr.app (Fr.app (Fr.app (Fr.app (Fr.app (Fr.app (Fr.nil _) N2) N3) (Fr.nil _)) (Fr.nil _)) N6) (Fr.nil _)) (Fr.nil _))⟩
                    · skip
                      have hab : nb ≠ na := fun z => q (by rw [z])
                      have gB : (upd (fun _ : Nat => Value.null) na .null) nb = .null := by rw [upd_ne hab]
                      have fB : (up (fun _ : Nat => (0 : Int64)) na ((fun _ : Nat => (0 : Int64)) na + p5)) nb = 0 := up_ne hab
                      refine W.aload X8 hx 194 (hb hby at_192) rfl rfl rfl ?_
                      refine W.iload X8 hx 196 (hb hby at_194) rfl rfl ?_
                      refine W.callV X8 hx hZ 199 0 o [(.int (Int32.ofNat nb))] hown (hw _ (List.mem_of_getElem? (i := 160) rfl)) (hw _ (List.mem_of_getElem? (i := 161) rfl)) (hw _ (List.mem_of_getElem? (i := 163) rfl)) (hw _ (List.mem_of_getElem? (i := 162) rfl)) (hw _ (List.mem_of_getElem? (i := 2) rfl)) (hw _ (List.mem_of_getElem? (i := 164) rfl)) (by decide) pd_10 rfl e8 JR.exa (rmT l Z a0 hw n0 o n (up (fun _ : Nat => (0 : Int64)) na ((fun _ : Nat => (0 : Int64)) na + p5)) (upd (fun _ : Nat => Value.null) na .null) (fun _ : Nat => (0 : Int64)) nb (0 : Int32) T6.heap JR hnb hn2 (Or.inl ⟨gB, rfl⟩)) (hb hby at_196) (by rw [hml]; rfl) rfl rfl (by decide) (by decide) (by decide) (by decide) rfl ?_
                      rintro v9 T9 L9 X9 ⟨rfl, e9, rfl⟩
                      refine W.iload X9 hx 201 (hb hby at_199) rfl rfl ?_
                      refine W.icmpNe X9 hx 230 204 (hb hby at_201) (by decide) (by decide) rfl (fun q => ?_) (fun q => ?_)
                      · exact absurd rfl q
                      · skip
                        refine W.aload X9 hx 206 (hb hby at_204) rfl rfl rfl ?_
                        refine W.iload X9 hx 208 (hb hby at_206) rfl rfl ?_
                        refine W.callV X9 hx hZ 211 0 o [(.int (Int32.ofNat nb))] hown (hw _ (List.mem_of_getElem? (i := 165) rfl)) (hw _ (List.mem_of_getElem? (i := 166) rfl)) (hw _ (List.mem_of_getElem? (i := 168) rfl)) (hw _ (List.mem_of_getElem? (i := 167) rfl)) (hw _ (List.mem_of_getElem? (i := 2) rfl)) (hw _ (List.mem_of_getElem? (i := 169) rfl)) (by decide) pd_11 rfl e9 JR.exa (rmL l Z a0 hw n0 o n (up (fun _ : Nat => (0 : Int64)) na ((fun _ : Nat => (0 : Int64)) na + p5)) (upd (fun _ : Nat => Value.null) na .null) (fun _ : Nat => (0 : Int64)) nb (0 : Int64) T6.heap JR hnb hn2 (Or.inl ⟨gB, fB⟩)) (hb hby at_208) (by rw [hml]; rfl) rfl rfl (by decide) (by decide) (by decide) (by decide) rfl ?_
                        rintro v10 T10 L10 X10 ⟨rfl, e10, rfl⟩
                        refine W.iload X10 hx 213 (hb hby at_211) rfl rfl ?_
                        refine W.ifEq X10 hx 221 216 (hb hby at_213) (by decide) (by decide) rfl (fun q => ?_) (fun q => ?_)
                        · skip
                          refine W.lconst X10 hx 222 (0 : Int64) (hb hby at_221) rfl rfl ?_
                          refine W.lcmp X10 hx 223 (hb hby at_222) rfl ?_
                          refine W.lifNe X10 hx 230 226 (hb hby at_223) (by decide) (by decide) rfl (fun q => ?_) (fun q => ?_)
                          · exact absurd rfl q
                          · skip
                            refine W.iconst X10 hx 227 (1 : Int32) (hb hby at_226) rfl rfl ?_
                            refine W.goto X10 hx 231 (hb hby at_227) (by decide) (by decide) ?_
                            refine W.istore X10 hx 233 #[.val (.int p1), .val (.int p2), .val (.long p3), .second, .val (.long p4), .second, .val (.long p5), .second, .val (.int p6), .val (.int (Int32.ofNat na)), .val (.int (Int32.ofNat nb)), .val (.int (0 : Int32)), .val (.int (0 : Int32)), .val (.ref o), .val (.int (1 : Int32)), .val (.int (1 : Int32)), .val (.int (1 : Int32))] (hb hby at_231) rfl rfl ?_
                            refine W.iload X10 hx 235 (hb hby at_233) rfl rfl ?_
                            refine W.ifEq X10 hx 252 238 (hb hby at_235) (by decide) (by decide) rfl (fun q => ?_) (fun q => ?_)
                            · exact absurd q (by decide)
                            · skip
                              refine W.iload X10 hx 240 (hb hby at_238) rfl rfl ?_
                              refine W.ifEq X10 hx 252 243 (hb hby at_240) (by decide) (by decide) rfl (fun q => ?_) (fun q => ?_)
                              · exact absurd q (by decide)
                              · skip
                                refine W.iload X10 hx 245 (hb hby at_243) rfl rfl ?_
                                refine W.ifEq X10 hx 252 248 (hb hby at_245) (by decide) (by decide) rfl (fun q => ?_) (fun q => ?_)
                                · exact absurd q (by decide)
                                · skip
                                  refine W.iconst X10 hx 249 (1 : Int32) (hb hby at_248) rfl rfl ?_
                                  refine W.goto X10 hx 253 (hb hby at_249) (by decide) (by decide) ?_
                                  refine W.nret X10 hx hlk (t := .boolean) hret (by simp) (hb hby at_253) (by decide) (by decide) ?_
                                  exact ⟨rfl, (Fr.app (Fr.app (Fr.app (Fr.app (Fr.app (Fr.app (Fr.app (Fr.app (Fr.app (Fr.nil _) N2) N3) (Fr.nil _)) (Fr.nil _)) N6) (Fr.nil _)) (Fr.nil _)) (Fr.nil _)) (Fr.nil _))⟩
                        · exact absurd rfl q
            · exact absurd rfl q
        · exact absurd rfl q
      · exact absurd rfl q
    · skip
      refine W.iload X0 hx 35 (hb hby at_33) rfl rfl ?_
      refine W.iload X0 hx 37 (hb hby at_35) rfl rfl ?_
      refine W.icmpEq X0 hx 44 40 (hb hby at_37) (by decide) (by decide) rfl (fun q => ?_) (fun q => ?_)
      · skip
        have hab : nb = na := own_eq (by omega) (by omega) q
        refine W.iconst X0 hx 45 (0 : Int32) (hb hby at_44) rfl rfl ?_
        refine W.istore X0 hx 47 #[.val (.int p1), .val (.int p2), .val (.long p3), .second, .val (.long p4), .second, .val (.long p5), .second, .val (.int p6), .val (.int (Int32.ofNat na)), .val (.int (Int32.ofNat nb)), .val (.int (0 : Int32)), .val (.int (0 : Int32)), .unset, .unset, .unset, .unset] (hb hby at_45) rfl rfl ?_
        refine W.newO X0 hx hZ 50 hown (hw _ (List.mem_of_getElem? (i := 0) rfl)) (hw _ (List.mem_of_getElem? (i := 1) rfl)) (hw _ (List.mem_of_getElem? (i := 2) rfl)) e0 (hb hby at_47) (by decide) (by decide) rfl ?_
        intro T11 h11 o q11 X11 e11 E11 E D
        have ge_o : n0 ≤ o := by have := Z0; omega
        have SD := SD.ext E11
        have SZ := SZ.ext E11
        have z11 : n0 ≤ h11.size := Nat.le_trans Z0 E11.1
        have i_me := D (Or.inr (hw _ (List.mem_of_getElem? (i := 64) rfl))) (ty := (.object "com/example/margrave/margrave/engine/Holdings$Numbering")) (by decide)
        have i_cl := D (Or.inr (hw _ (List.mem_of_getElem? (i := 66) rfl))) (ty := (.object "com/example/margrave/margrave/engine/Holdings$Numbering")) (by decide)
        have i_co := D (Or.inr (hw _ (List.mem_of_getElem? (i := 68) rfl))) (ty := (.object "com/example/margrave/margrave/engine/Holdings$Numbering")) (by decide)
        have i_io := D (Or.inl (hw _ (List.mem_of_getElem? (i := 70) rfl))) (ty := .boolean) (by decide)
        have i_de := D (Or.inr (hw _ (List.mem_of_getElem? (i := 72) rfl))) (ty := .boolean) (by decide)
        have i_ha := D (Or.inl (hw _ (List.mem_of_getElem? (i := 76) rfl))) (ty := (.object "java/util/function/LongBinaryOperator")) (by decide)
        have f_m := D (Or.inl (hw _ (List.mem_of_getElem? (i := 87) rfl))) (ty := (.array .int)) (by decide)
        have f_cl := D (Or.inl (hw _ (List.mem_of_getElem? (i := 89) rfl))) (ty := (.array .int)) (by decide)
        have f_co := D (Or.inl (hw _ (List.mem_of_getElem? (i := 91) rfl))) (ty := (.array .int)) (by decide)
        have f_si := D (Or.inl (hw _ (List.mem_of_getElem? (i := 94) rfl))) (ty := (.array .byte)) (by decide)
        have f_pu := D (Or.inl (hw _ (List.mem_of_getElem? (i := 96) rfl))) (ty := (.array .byte)) (by decide)
        have f_be := D (Or.inl (hw _ (List.mem_of_getElem? (i := 99) rfl))) (ty := (.array .long)) (by decide)
        have f_en := D (Or.inl (hw _ (List.mem_of_getElem? (i := 101) rfl))) (ty := (.array (.object "com/example/margrave/margrave/engine/Holding"))) (by decide)
        have f_fe := D (Or.inl (hw _ (List.mem_of_getElem? (i := 103) rfl))) (ty := (.array .long)) (by decide)
        have f_fp := D (Or.inl (hw _ (List.mem_of_getElem? (i := 105) rfl))) (ty := (.array (.object "java/math/BigDecimal"))) (by decide)
        have f_ix := D (Or.inl (hw _ (List.mem_of_getElem? (i := 107) rfl))) (ty := (.object "com/example/margrave/margrave/engine/HashIndex")) (by decide)
        have f_g := D (Or.inl (hw _ (List.mem_of_getElem? (i := 74) rfl))) (ty := (.object "com/example/margrave/margrave/engine/LotGroups")) (by decide)
        refine W.dup X11 hx 51 (hb hby at_50) rfl rfl ?_
        refine W.iload X11 hx 53 (hb hby at_51) rfl rfl ?_
        refine W.iconst X11 hx 54 (2 : Int32) (hb hby at_53) rfl rfl ?_
        refine W.iushr X11 hx 55 (hb hby at_54) rfl ?_
        refine W.bipush X11 hx 57 (31 : Int32) (hb hby at_55) rfl rfl ?_
        obtain ⟨ex, hex, eex⟩ := own_and ((p6).toUInt32 >>> ((2 : Int32) &&& 31).toUInt32).toInt32 31 (by decide)
        have hex : ex ≤ 31 := by have e : (31 : Int32).toInt = 31 := rfl; omega
        have eex := own_ieq eex
        refine W.iand X11 hx 58 (hb hby at_57) rfl ?_
        rw [eex]
        obtain ⟨n, hn⟩ : ∃ z : Nat, z = if ex < 16 then 16 else ex := ⟨_, rfl⟩
        have hn2 : 16 ≤ n ∧ n ≤ 31 := by split at hn <;> omega
        have EO := E
        refine W.callI X11 hx hZ 61 1 o [(.int (Int32.ofNat ex))] rfl hown (hw _ (List.mem_of_getElem? (i := 3) rfl)) (hw _ (List.mem_of_getElem? (i := 4) rfl)) (hw _ (List.mem_of_getElem? (i := 2) rfl)) (hw _ (List.mem_of_getElem? (i := 5) rfl)) (by decide) pd_2 rfl e11 (rmI1 l Z a0 hw o dv ex n h11 n0 z11 E i_me i_cl i_co i_io i_de i_ha f_m f_cl f_co f_si f_pu f_be f_en f_fe f_fp f_ix f_g SD hn hex ge_o) (hb hby at_58) (by rw [hml]; rfl) rfl rfl (by decide) (by decide) (by decide) (by decide) rfl ?_
        rintro v12 T12 L12 X12 ⟨rfl, N12, K12, mb, bf, O12⟩
        have SZ := Sta.keepE SZ K12 EO
        have z12 : n0 ≤ T12.heap.size := Nat.le_trans z11 K12.1
        have J0 : HJ Z T12.heap n0 o n (fun _ : Nat => (0 : Int64)) (fun _ : Nat => Value.null) (fun _ : Nat => (0 : Int64)) := ⟨mb, bf, .null, O12, Or.inl ⟨rfl, fun _ => rfl⟩, fun _ _ _ => Or.inl rfl⟩
        refine W.astore X12 hx 63 #[.val (.int p1), .val (.int p2), .val (.long p3), .second, .val (.long p4), .second, .val (.long p5), .second, .val (.int p6), .val (.int (Int32.ofNat na)), .val (.int (Int32.ofNat nb)), .val (.int (0 : Int32)), .val (.int (0 : Int32)), .val (.ref o), .unset, .unset, .unset] (hb hby at_61) rfl rfl rfl ?_
        refine W.iload X12 hx 65 (hb hby at_63) rfl rfl ?_
        refine W.ifEq X12 hx 79 68 (hb hby at_65) (by decide) (by decide) rfl (fun q => ?_) (fun q => ?_)
        · skip
          refine W.iload X12 hx 81 (hb hby at_79) rfl rfl ?_
          refine W.ifEq X12 hx 96 84 (hb hby at_81) (by decide) (by decide) rfl (fun q => ?_) (fun q => ?_)
          · skip
            refine W.aload X12 hx 98 (hb hby at_96) rfl rfl rfl ?_
            refine W.iload X12 hx 100 (hb hby at_98) rfl rfl ?_
            refine W.iconst X12 hx 101 (0 : Int32) (hb hby at_100) rfl rfl ?_
            refine W.anull X12 hx 102 (hb hby at_101) rfl ?_
            refine W.lload X12 hx 104 (hb hby at_102) rfl rfl ?_
            refine W.callV X12 hx hZ 107 0 o [(.int (Int32.ofNat na)), (.int (0 : Int32)), .null, (.long p5)] hown (hw _ (List.mem_of_getElem? (i := 155) rfl)) (hw _ (List.mem_of_getElem? (i := 156) rfl)) (hw _ (List.mem_of_getElem? (i := 158) rfl)) (hw _ (List.mem_of_getElem? (i := 157) rfl)) (hw _ (List.mem_of_getElem? (i := 2) rfl)) (hw _ (List.mem_of_getElem? (i := 159) rfl)) (by decide) pd_9 rfl rfl J0.exa (rmB l Z a0 hw o n (fun _ : Nat => (0 : Int64)) (fun _ : Nat => Value.null) (fun _ : Nat => (0 : Int64)) na p5 T12.heap n0 z12 J0 hna hn2) (hb hby at_104) (by rw [hml]; rfl) rfl rfl (by decide) (by decide) (by decide) (by decide) rfl ?_
            rintro v13 T13 L13 X13 ⟨rfl, N13, hz13, JH⟩
            have z13 : n0 ≤ T13.heap.size := Nat.le_trans z12 hz13
            have gA : (fun _ : Nat => Value.null) na = .null := rfl
            have fA : (up (fun _ : Nat => (0 : Int64)) na ((fun _ : Nat => (0 : Int64)) na + p5)) na = p5 := by rw [up_same]; exact Int64.zero_add p5
            refine W.aload X13 hx 109 (hb hby at_107) rfl rfl rfl ?_
            refine W.iload X13 hx 111 (hb hby at_109) rfl rfl ?_
            refine W.callV X13 hx hZ 114 0 o [(.int (Int32.ofNat na))] hown (hw _ (List.mem_of_getElem? (i := 160) rfl)) (hw _ (List.mem_of_getElem? (i := 161) rfl)) (hw _ (List.mem_of_getElem? (i := 163) rfl)) (hw _ (List.mem_of_getElem? (i := 162) rfl)) (hw _ (List.mem_of_getElem? (i := 2) rfl)) (hw _ (List.mem_of_getElem? (i := 164) rfl)) (by decide) pd_10 rfl rfl JH.exa (rmT l Z a0 hw n0 o n (up (fun _ : Nat => (0 : Int64)) na ((fun _ : Nat => (0 : Int64)) na + p5)) (fun _ : Nat => Value.null) (fun _ : Nat => (0 : Int64)) na (0 : Int32) T13.heap JH hna hn2 (Or.inl ⟨gA, rfl⟩)) (hb hby at_111) (by rw [hml]; rfl) rfl rfl (by decide) (by decide) (by decide) (by decide) rfl ?_
            rintro v14 T14 L14 X14 ⟨rfl, e14, rfl⟩
            refine W.iload X14 hx 116 (hb hby at_114) rfl rfl ?_
            refine W.icmpNe X14 hx 145 119 (hb hby at_116) (by decide) (by decide) rfl (fun q => ?_) (fun q => ?_)
            · exact absurd rfl q
            · skip
              refine W.aload X14 hx 121 (hb hby at_119) rfl rfl rfl ?_
              refine W.iload X14 hx 123 (hb hby at_121) rfl rfl ?_
              refine W.callV X14 hx hZ 126 0 o [(.int (Int32.ofNat na))] hown (hw _ (List.mem_of_getElem? (i := 165) rfl)) (hw _ (List.mem_of_getElem? (i := 166) rfl)) (hw _ (List.mem_of_getElem? (i := 168) rfl)) (hw _ (List.mem_of_getElem? (i := 167) rfl)) (hw _ (List.mem_of_getElem? (i := 2) rfl)) (hw _ (List.mem_of_getElem? (i := 169) rfl)) (by decide) pd_11 rfl e14 JH.exa (rmL l Z a0 hw n0 o n (up (fun _ : Nat => (0 : Int64)) na ((fun _ : Nat => (0 : Int64)) na + p5)) (fun _ : Nat => Value.null) (fun _ : Nat => (0 : Int64)) na p5 T13.heap JH hna hn2 (Or.inl ⟨gA, fA⟩)) (hb hby at_123) (by rw [hml]; rfl) rfl rfl (by decide) (by decide) (by decide) (by decide) rfl ?_
              rintro v15 T15 L15 X15 ⟨rfl, e15, rfl⟩
              refine W.iload X15 hx 128 (hb hby at_126) rfl rfl ?_
              refine W.ifEq X15 hx 135 131 (hb hby at_128) (by decide) (by decide) rfl (fun q => ?_) (fun q => ?_)
              · skip
                refine W.lload X15 hx 137 (hb hby at_135) rfl rfl ?_
                refine W.lcmp X15 hx 138 (hb hby at_137) rfl ?_
                refine W.lifNe X15 hx 145 141 (hb hby at_138) (by decide) (by decide) rfl (fun q => ?_) (fun q => ?_)
                · exact absurd rfl q
                · skip
                  refine W.iconst X15 hx 142 (1 : Int32) (hb hby at_141) rfl rfl ?_
                  refine W.goto X15 hx 146 (hb hby at_142) (by decide) (by decide) ?_
                  refine W.istore X15 hx 148 #[.val (.int p1), .val (.int p2), .val (.long p3), .second, .val (.long p4), .second, .val (.long p5), .second, .val (.int p6), .val (.int (Int32.ofNat na)), .val (.int (Int32.ofNat nb)), .val (.int (0 : Int32)), .val (.int (0 : Int32)), .val (.ref o), .val (.int (1 : Int32)), .unset, .unset] (hb hby at_146) rfl rfl ?_
                  refine W.aload X15 hx 150 (hb hby at_148) rfl rfl rfl ?_
                  refine W.iload X15 hx 152 (hb hby at_150) rfl rfl ?_
                  refine W.callV X15 hx hZ 155 0 o [(.int (Int32.ofNat na))] hown (hw _ (List.mem_of_getElem? (i := 175) rfl)) (hw _ (List.mem_of_getElem? (i := 176) rfl)) (hw _ (List.mem_of_getElem? (i := 178) rfl)) (hw _ (List.mem_of_getElem? (i := 177) rfl)) (hw _ (List.mem_of_getElem? (i := 2) rfl)) (hw _ (List.mem_of_getElem? (i := 179) rfl)) (by decide) pd_2 rfl e15 JH.exa (rmR l Z a0 hw o n (up (fun _ : Nat => (0 : Int64)) na ((fun _ : Nat => (0 : Int64)) na + p5)) (fun _ : Nat => Value.null) (fun _ : Nat => (0 : Int64)) na T13.heap n0 z13 JH hna hn2) (hb hby at_152) (by rw [hml]; rfl) rfl rfl (by decide) (by decide) (by decide) (by decide) rfl ?_
                  rintro v16 T16 L16 X16 ⟨rfl, N16, hz16, JR⟩
                  have z16 : n0 ≤ T16.heap.size := Nat.le_trans z13 hz16
                  refine W.aload X16 hx 157 (hb hby at_155) rfl rfl rfl ?_
                  refine W.iload X16 hx 159 (hb hby at_157) rfl rfl ?_
                  refine W.callV X16 hx hZ 162 0 o [(.int (Int32.ofNat na))] hown (hw _ (List.mem_of_getElem? (i := 160) rfl)) (hw _ (List.mem_of_getElem? (i := 161) rfl)) (hw _ (List.mem_of_getElem? (i := 163) rfl)) (hw _ (List.mem_of_getElem? (i := 162) rfl)) (hw _ (List.mem_of_getElem? (i := 2) rfl)) (hw _ (List.mem_of_getElem? (i := 164) rfl)) (by decide) pd_10 rfl rfl JR.exa (rmT l Z a0 hw n0 o n (up (fun _ : Nat => (0 : Int64)) na ((fun _ : Nat => (0 : Int64)) na + p5)) (upd (fun _ : Nat => Value.null) na .null) (fun _ : Nat => (0 : Int64)) na (0 : Int32) T16.heap JR hna hn2 (Or.inl ⟨upd_same _ _ _, rfl⟩)) (hb hby at_159) (by rw [hml]; rfl) rfl rfl (by decide) (by decide) (by decide) (by decide) rfl ?_
                  rintro v17 T17 L17 X17 ⟨rfl, e17, rfl⟩
                  refine W.ifNe X17 hx 182 165 (hb hby at_162) (by decide) (by decide) rfl (fun q => ?_) (fun q => ?_)
                  · exact absurd rfl q
                  · skip
                    refine W.aload X17 hx 167 (hb hby at_165) rfl rfl rfl ?_
                    refine W.iload X17 hx 169 (hb hby at_167) rfl rfl ?_
                    refine W.callV X17 hx hZ 172 0 o [(.int (Int32.ofNat na))] hown (hw _ (List.mem_of_getElem? (i := 165) rfl)) (hw _ (List.mem_of_getElem? (i := 166) rfl)) (hw _ (List.mem_of_getElem? (i := 168) rfl)) (hw _ (List.mem_of_getElem? (i := 167) rfl)) (hw _ (List.mem_of_getElem? (i := 2) rfl)) (hw _ (List.mem_of_getElem? (i := 169) rfl)) (by decide) pd_11 rfl e17 JR.exa (rmL l Z a0 hw n0 o n (up (fun _ : Nat => (0 : Int64)) na ((fun _ : Nat => (0 : Int64)) na + p5)) (upd (fun _ : Nat => Value.null) na .null) (fun _ : Nat => (0 : Int64)) na p5 T16.heap JR hna hn2 (Or.inl ⟨upd_same _ _ _, fA⟩)) (hb hby at_169) (by rw [hml]; rfl) rfl rfl (by decide) (by decide) (by decide) (by decide) rfl ?_
                    rintro v18 T18 L18 X18 ⟨rfl, e18, rfl⟩
                    refine W.lload X18 hx 174 (hb hby at_172) rfl rfl ?_
                    refine W.lcmp X18 hx 175 (hb hby at_174) rfl ?_
                    refine W.lifNe X18 hx 182 178 (hb hby at_175) (by decide) (by decide) rfl (fun q => ?_) (fun q => ?_)
                    · exact absurd rfl q
                    · skip
                      refine W.iconst X18 hx 179 (1 : Int32) (hb hby at_178) rfl rfl ?_
                      refine W.goto X18 hx 183 (hb hby at_179) (by decide) (by decide) ?_
                      refine W.istore X18 hx 185 #[.val (.int p1), .val (.int p2), .val (.long p3), .second, .val (.long p4), .second, .val (.long p5), .second, .val (.int p6), .val (.int (Int32.ofNat na)), .val (.int (Int32.ofNat nb)), .val (.int (0 : Int32)), .val (.int (0 : Int32)), .val (.ref o), .val (.int (1 : Int32)), .val (.int (1 : Int32)), .unset] (hb hby at_183) rfl rfl ?_
                      refine W.iload X18 hx 187 (hb hby at_185) rfl rfl ?_
                      refine W.iload X18 hx 189 (hb hby at_187) rfl rfl ?_
                      refine W.icmpEq X18 hx 226 192 (hb hby at_189) (by decide) (by decide) rfl (fun q => ?_) (fun q => ?_)
                      · skip
                        refine W.iconst X18 hx 227 (1 : Int32) (hb hby at_226) rfl rfl ?_
                        refine W.goto X18 hx 231 (hb hby at_227) (by decide) (by decide) ?_
                        refine W.istore X18 hx 233 #[.val (.int p1), .val (.int p2), .val (.long p3), .second, .val (.long p4), .second, .val (.long p5), .second, .val (.int p6), .val (.int (Int32.ofNat na)), .val (.int (Int32.ofNat nb)), .val (.int (0 : Int32)), .val (.int (0 : Int32)), .val (.ref o), .val (.int (1 : Int32)), .val (.int (1 : Int32)), .val (.int (1 : Int32))] (hb hby at_231) rfl rfl ?_
                        refine W.iload X18 hx 235 (hb hby at_233) rfl rfl ?_
                        refine W.ifEq X18 hx 252 238 (hb hby at_235) (by decide) (by decide) rfl (fun q => ?_) (fun q => ?_)
                        · exact absurd q (by decide)
                        · skip
                          refine W.iload X18 hx 240 (hb hby at_238) rfl rfl ?_
                          refine W.ifEq X18 hx 252 243 (hb hby at_240) (by decide) (by decide) rfl (fun q => ?_) (fun q => ?_)
                          · exact absurd q (by decide)
                          · skip
                            refine W.iload X18 hx 245 (hb hby at_243) rfl rfl ?_
                            refine W.ifEq X18 hx 252 248 (hb hby at_245) (by decide) (by decide) rfl (fun q => ?_) (fun q => ?_)
                            · exact absurd q (by decide)
                            · skip
                              refine W.iconst X18 hx 249 (1 : Int32) (hb hby at_248) rfl rfl ?_
                              refine W.goto X18 hx 253 (hb hby at_249) (by decide) (by decide) ?_
                              refine W.nret X18 hx hlk (t := .boolean) hret (by simp) (hb hby at_253) (by decide) (by decide) ?_
                              exact ⟨rfl, (Fr.app (Fr.app (Fr.app (Fr.app (Fr.app (Fr.app (Fr.app (Fr.nil _) N12) N13) (Fr.nil _)) (Fr.nil _)) N16) (Fr.nil _)) (Fr.nil _))⟩
                      · exact absurd (by rw [hab]) q
              · exact absurd rfl q
          · exact absurd rfl q
        · exact absurd rfl q
      · skip
        have hab : nb ≠ na := fun z => q (by rw [z])
        refine W.iconst X0 hx 41 (1 : Int32) (hb hby at_40) rfl rfl ?_
        refine W.goto X0 hx 45 (hb hby at_41) (by decide) (by decide) ?_
        refine W.istore X0 hx 47 #[.val (.int p1), .val (.int p2), .val (.long p3), .second, .val (.long p4), .second, .val (.long p5), .second, .val (.int p6), .val (.int (Int32.ofNat na)), .val (.int (Int32.ofNat nb)), .val (.int (0 : Int32)), .val (.int (1 : Int32)), .unset, .unset, .unset, .unset] (hb hby at_45) rfl rfl ?_
        refine W.newO X0 hx hZ 50 hown (hw _ (List.mem_of_getElem? (i := 0) rfl)) (hw _ (List.mem_of_getElem? (i := 1) rfl)) (hw _ (List.mem_of_getElem? (i := 2) rfl)) e0 (hb hby at_47) (by decide) (by decide) rfl ?_
        intro T19 h19 o q19 X19 e19 E19 E D
        have ge_o : n0 ≤ o := by have := Z0; omega
        have SD := SD.ext E19
        have SZ := SZ.ext E19
        have z19 : n0 ≤ h19.size := Nat.le_trans Z0 E19.1
        have i_me := D (Or.inr (hw _ (List.mem_of_getElem? (i := 64) rfl))) (ty := (.object "com/example/margrave/margrave/engine/Holdings$Numbering")) (by decide)
        have i_cl := D (Or.inr (hw _ (List.mem_of_getElem? (i := 66) rfl))) (ty := (.object "com/example/margrave/margrave/engine/Holdings$Numbering")) (by decide)
        have i_co := D (Or.inr (hw _ (List.mem_of_getElem? (i := 68) rfl))) (ty := (.object "com/example/margrave/margrave/engine/Holdings$Numbering")) (by decide)
        have i_io := D (Or.inl (hw _ (List.mem_of_getElem? (i := 70) rfl))) (ty := .boolean) (by decide)
        have i_de := D (Or.inr (hw _ (List.mem_of_getElem? (i := 72) rfl))) (ty := .boolean) (by decide)
        have i_ha := D (Or.inl (hw _ (List.mem_of_getElem? (i := 76) rfl))) (ty := (.object "java/util/function/LongBinaryOperator")) (by decide)
        have f_m := D (Or.inl (hw _ (List.mem_of_getElem? (i := 87) rfl))) (ty := (.array .int)) (by decide)
        have f_cl := D (Or.inl (hw _ (List.mem_of_getElem? (i := 89) rfl))) (ty := (.array .int)) (by decide)
        have f_co := D (Or.inl (hw _ (List.mem_of_getElem? (i := 91) rfl))) (ty := (.array .int)) (by decide)
        have f_si := D (Or.inl (hw _ (List.mem_of_getElem? (i := 94) rfl))) (ty := (.array .byte)) (by decide)
        have f_pu := D (Or.inl (hw _ (List.mem_of_getElem? (i := 96) rfl))) (ty := (.array .byte)) (by decide)
        have f_be := D (Or.inl (hw _ (List.mem_of_getElem? (i := 99) rfl))) (ty := (.array .long)) (by decide)
        have f_en := D (Or.inl (hw _ (List.mem_of_getElem? (i := 101) rfl))) (ty := (.array (.object "com/example/margrave/margrave/engine/Holding"))) (by decide)
        have f_fe := D (Or.inl (hw _ (List.mem_of_getElem? (i := 103) rfl))) (ty := (.array .long)) (by decide)
        have f_fp := D (Or.inl (hw _ (List.mem_of_getElem? (i := 105) rfl))) (ty := (.array (.object "java/math/BigDecimal"))) (by decide)
        have f_ix := D (Or.inl (hw _ (List.mem_of_getElem? (i := 107) rfl))) (ty := (.object "com/example/margrave/margrave/engine/HashIndex")) (by decide)
        have f_g := D (Or.inl (hw _ (List.mem_of_getElem? (i := 74) rfl))) (ty := (.object "com/example/margrave/margrave/engine/LotGroups")) (by decide)
        refine W.dup X19 hx 51 (hb hby at_50) rfl rfl ?_
        refine W.iload X19 hx 53 (hb hby at_51) rfl rfl ?_
        refine W.iconst X19 hx 54 (2 : Int32) (hb hby at_53) rfl rfl ?_
        refine W.iushr X19 hx 55 (hb hby at_54) rfl ?_
        refine W.bipush X19 hx 57 (31 : Int32) (hb hby at_55) rfl rfl ?_
        obtain ⟨ex, hex, eex⟩ := own_and ((p6).toUInt32 >>> ((2 : Int32) &&& 31).toUInt32).toInt32 31 (by decide)
        have hex : ex ≤ 31 := by have e : (31 : Int32).toInt = 31 := rfl; omega
        have eex := own_ieq eex
        refine W.iand X19 hx 58 (hb hby at_57) rfl ?_
        rw [eex]
        obtain ⟨n, hn⟩ : ∃ z : Nat, z = if ex < 16 then 16 else ex := ⟨_, rfl⟩
        have hn2 : 16 ≤ n ∧ n ≤ 31 := by split at hn <;> omega
        have EO := E
        refine W.callI X19 hx hZ 61 1 o [(.int (Int32.ofNat ex))] rfl hown (hw _ (List.mem_of_getElem? (i := 3) rfl)) (hw _ (List.mem_of_getElem? (i := 4) rfl)) (hw _ (List.mem_of_getElem? (i := 2) rfl)) (hw _ (List.mem_of_getElem? (i := 5) rfl)) (by decide) pd_2 rfl e19 (rmI1 l Z a0 hw o dv ex n h19 n0 z19 E i_me i_cl i_co i_io i_de i_ha f_m f_cl f_co f_si f_pu f_be f_en f_fe f_fp f_ix f_g SD hn hex ge_o) (hb hby at_58) (by rw [hml]; rfl) rfl rfl (by decide) (by decide) (by decide) (by decide) rfl ?_
        rintro v20 T20 L20 X20 ⟨rfl, N20, K20, mb, bf, O20⟩
        have SZ := Sta.keepE SZ K20 EO
        have z20 : n0 ≤ T20.heap.size := Nat.le_trans z19 K20.1
        have J0 : HJ Z T20.heap n0 o n (fun _ : Nat => (0 : Int64)) (fun _ : Nat => Value.null) (fun _ : Nat => (0 : Int64)) := ⟨mb, bf, .null, O20, Or.inl ⟨rfl, fun _ => rfl⟩, fun _ _ _ => Or.inl rfl⟩
        refine W.astore X20 hx 63 #[.val (.int p1), .val (.int p2), .val (.long p3), .second, .val (.long p4), .second, .val (.long p5), .second, .val (.int p6), .val (.int (Int32.ofNat na)), .val (.int (Int32.ofNat nb)), .val (.int (0 : Int32)), .val (.int (1 : Int32)), .val (.ref o), .unset, .unset, .unset] (hb hby at_61) rfl rfl rfl ?_
        refine W.iload X20 hx 65 (hb hby at_63) rfl rfl ?_
        refine W.ifEq X20 hx 79 68 (hb hby at_65) (by decide) (by decide) rfl (fun q => ?_) (fun q => ?_)
        · skip
          refine W.iload X20 hx 81 (hb hby at_79) rfl rfl ?_
          refine W.ifEq X20 hx 96 84 (hb hby at_81) (by decide) (by decide) rfl (fun q => ?_) (fun q => ?_)
          · exact absurd q (by decide)
          · skip
            refine W.aload X20 hx 86 (hb hby at_84) rfl rfl rfl ?_
            refine W.iload X20 hx 88 (hb hby at_86) rfl rfl ?_
            refine W.anull X20 hx 89 (hb hby at_88) rfl ?_
            refine W.anull X20 hx 90 (hb hby at_89) rfl ?_
            refine W.lload X20 hx 92 (hb hby at_90) rfl rfl ?_
            refine W.iconst X20 hx 93 (1 : Int32) (hb hby at_92) rfl rfl ?_
            refine W.callV X20 hx hZ 96 0 o [(.int (Int32.ofNat nb)), .null, .null, (.long p4), (.int (1 : Int32))] hown (hw _ (List.mem_of_getElem? (i := 108) rfl)) (hw _ (List.mem_of_getElem? (i := 109) rfl)) (hw _ (List.mem_of_getElem? (i := 111) rfl)) (hw _ (List.mem_of_getElem? (i := 110) rfl)) (hw _ (List.mem_of_getElem? (i := 2) rfl)) (hw _ (List.mem_of_getElem? (i := 112) rfl)) (by decide) pd_12 rfl rfl J0.exa (rmO l Z a0 hw o n (fun _ : Nat => (0 : Int64)) (fun _ : Nat => Value.null) (fun _ : Nat => (0 : Int64)) nb p4 (1 : Int32) bz T20.heap n0 z20 J0 hnb hn2 SZ rfl rfl) (hb hby at_93) (by rw [hml]; rfl) rfl rfl (by decide) (by decide) (by decide) (by decide) rfl ?_
            rintro v21 T21 L21 X21 ⟨rfl, N21, hz21, SZ, kB, JB⟩
            have z21 : n0 ≤ T21.heap.size := Nat.le_trans z20 hz21
            refine W.aload X21 hx 98 (hb hby at_96) rfl rfl rfl ?_
            refine W.iload X21 hx 100 (hb hby at_98) rfl rfl ?_
            refine W.iconst X21 hx 101 (0 : Int32) (hb hby at_100) rfl rfl ?_
            refine W.anull X21 hx 102 (hb hby at_101) rfl ?_
            refine W.lload X21 hx 104 (hb hby at_102) rfl rfl ?_
            refine W.callV X21 hx hZ 107 0 o [(.int (Int32.ofNat na)), (.int (0 : Int32)), .null, (.long p5)] hown (hw _ (List.mem_of_getElem? (i := 155) rfl)) (hw _ (List.mem_of_getElem? (i := 156) rfl)) (hw _ (List.mem_of_getElem? (i := 158) rfl)) (hw _ (List.mem_of_getElem? (i := 157) rfl)) (hw _ (List.mem_of_getElem? (i := 2) rfl)) (hw _ (List.mem_of_getElem? (i := 159) rfl)) (by decide) pd_9 rfl rfl JB.exa (rmB l Z a0 hw o n (fun _ : Nat => (0 : Int64)) (upd (fun _ : Nat => Value.null) nb (.ref kB)) (up (fun _ : Nat => (0 : Int64)) nb p4) na p5 T21.heap n0 z21 JB hna hn2) (hb hby at_104) (by rw [hml]; rfl) rfl rfl (by decide) (by decide) (by decide) (by decide) rfl ?_
            rintro v22 T22 L22 X22 ⟨rfl, N22, hz22, JH⟩
            have z22 : n0 ≤ T22.heap.size := Nat.le_trans z21 hz22
            have gA : (upd (fun _ : Nat => Value.null) nb (.ref kB)) na = .null := upd_ne (Ne.symm hab)
            have fA : (up (fun _ : Nat => (0 : Int64)) na ((fun _ : Nat => (0 : Int64)) na + p5)) na = p5 := by rw [up_same]; exact Int64.zero_add p5
            have gB : (upd (upd (fun _ : Nat => Value.null) nb (.ref kB)) na .null) nb = .ref kB := by rw [upd_ne hab, upd_same]
            have xB : (up (fun _ : Nat => (0 : Int64)) nb p4) nb = p4 := up_same _ _ _
            refine W.aload X22 hx 109 (hb hby at_107) rfl rfl rfl ?_
            refine W.iload X22 hx 111 (hb hby at_109) rfl rfl ?_
            refine W.callV X22 hx hZ 114 0 o [(.int (Int32.ofNat na))] hown (hw _ (List.mem_of_getElem? (i := 160) rfl)) (hw _ (List.mem_of_getElem? (i := 161) rfl)) (hw _ (List.mem_of_getElem? (i := 163) rfl)) (hw _ (List.mem_of_getElem? (i := 162) rfl)) (hw _ (List.mem_of_getElem? (i := 2) rfl)) (hw _ (List.mem_of_getElem? (i := 164) rfl)) (by decide) pd_10 rfl rfl JH.exa (rmT l Z a0 hw n0 o n (up (fun _ : Nat => (0 : Int64)) na ((fun _ : Nat => (0 : Int64)) na + p5)) (upd (fun _ : Nat => Value.null) nb (.ref kB)) (up (fun _ : Nat => (0 : Int64)) nb p4) na (0 : Int32) T22.heap JH hna hn2 (Or.inl ⟨gA, rfl⟩)) (hb hby at_111) (by rw [hml]; rfl) rfl rfl (by decide) (by decide) (by decide) (by decide) rfl ?_
            rintro v23 T23 L23 X23 ⟨rfl, e23, rfl⟩
            refine W.iload X23 hx 116 (hb hby at_114) rfl rfl ?_
            refine W.icmpNe X23 hx 145 119 (hb hby at_116) (by decide) (by decide) rfl (fun q => ?_) (fun q => ?_)
            · exact absurd rfl q
            · skip
              refine W.aload X23 hx 121 (hb hby at_119) rfl rfl rfl ?_
              refine W.iload X23 hx 123 (hb hby at_121) rfl rfl ?_
              refine W.callV X23 hx hZ 126 0 o [(.int (Int32.ofNat na))] hown (hw _ (List.mem_of_getElem? (i := 165) rfl)) (hw _ (List.mem_of_getElem? (i := 166) rfl)) (hw _ (List.mem_of_getElem? (i := 168) rfl)) (hw _ (List.mem_of_getElem? (i := 167) rfl)) (hw _ (List.mem_of_getElem? (i := 2) rfl)) (hw _ (List.mem_of_getElem? (i := 169) rfl)) (by decide) pd_11 rfl e23 JH.exa (rmL l Z a0 hw n0 o n (up (fun _ : Nat => (0 : Int64)) na ((fun _ : Nat => (0 : Int64)) na + p5)) (upd (fun _ : Nat => Value.null) nb (.ref kB)) (up (fun _ : Nat => (0 : Int64)) nb p4) na p5 T22.heap JH hna hn2 (Or.inl ⟨gA, fA⟩)) (hb hby at_123) (by rw [hml]; rfl) rfl rfl (by decide) (by decide) (by decide) (by decide) rfl ?_
              rintro v24 T24 L24 X24 ⟨rfl, e24, rfl⟩
              refine W.iload X24 hx 128 (hb hby at_126) rfl rfl ?_
              refine W.ifEq X24 hx 135 131 (hb hby at_128) (by decide) (by decide) rfl (fun q => ?_) (fun q => ?_)
              · skip
                refine W.lload X24 hx 137 (hb hby at_135) rfl rfl ?_
                refine W.lcmp X24 hx 138 (hb hby at_137) rfl ?_
                refine W.lifNe X24 hx 145 141 (hb hby at_138) (by decide) (by decide) rfl (fun q => ?_) (fun q => ?_)
                · exact absurd rfl q
                · skip
                  refine W.iconst X24 hx 142 (1 : Int32) (hb hby at_141) rfl rfl ?_
                  refine W.goto X24 hx 146 (hb hby at_142) (by decide) (by decide) ?_
                  refine W.istore X24 hx 148 #[.val (.int p1), .val (.int p2), .val (.long p3), .second, .val (.long p4), .second, .val (.long p5), .second, .val (.int p6), .val (.int (Int32.ofNat na)), .val (.int (Int32.ofNat nb)), .val (.int (0 : Int32)), .val (.int (1 : Int32)), .val (.ref o), .val (.int (1 : Int32)), .unset, .unset] (hb hby at_146) rfl rfl ?_
                  refine W.aload X24 hx 150 (hb hby at_148) rfl rfl rfl ?_
                  refine W.iload X24 hx 152 (hb hby at_150) rfl rfl ?_
                  refine W.callV X24 hx hZ 155 0 o [(.int (Int32.ofNat na))] hown (hw _ (List.mem_of_getElem? (i := 175) rfl)) (hw _ (List.mem_of_getElem? (i := 176) rfl)) (hw _ (List.mem_of_getElem? (i := 178) rfl)) (hw _ (List.mem_of_getElem? (i := 177) rfl)) (hw _ (List.mem_of_getElem? (i := 2) rfl)) (hw _ (List.mem_of_getElem? (i := 179) rfl)) (by decide) pd_2 rfl e24 JH.exa (rmR l Z a0 hw o n (up (fun _ : Nat => (0 : Int64)) na ((fun _ : Nat => (0 : Int64)) na + p5)) (upd (fun _ : Nat => Value.null) nb (.ref kB)) (up (fun _ : Nat => (0 : Int64)) nb p4) na T22.heap n0 z22 JH hna hn2) (hb hby at_152) (by rw [hml]; rfl) rfl rfl (by decide) (by decide) (by decide) (by decide) rfl ?_
                  rintro v25 T25 L25 X25 ⟨rfl, N25, hz25, JR⟩
                  have z25 : n0 ≤ T25.heap.size := Nat.le_trans z22 hz25
                  refine W.aload X25 hx 157 (hb hby at_155) rfl rfl rfl ?_
                  refine W.iload X25 hx 159 (hb hby at_157) rfl rfl ?_
                  refine W.callV X25 hx hZ 162 0 o [(.int (Int32.ofNat na))] hown (hw _ (List.mem_of_getElem? (i := 160) rfl)) (hw _ (List.mem_of_getElem? (i := 161) rfl)) (hw _ (List.mem_of_getElem? (i := 163) rfl)) (hw _ (List.mem_of_getElem? (i := 162) rfl)) (hw _ (List.mem_of_getElem? (i := 2) rfl)) (hw _ (List.mem_of_getElem? (i := 164) rfl)) (by decide) pd_10 rfl rfl JR.exa (rmT l Z a0 hw n0 o n (up (fun _ : Nat => (0 : Int64)) na ((fun _ : Nat => (0 : Int64)) na + p5)) (upd (upd (fun _ : Nat => Value.null) nb (.ref kB)) na .null) (up (fun _ : Nat => (0 : Int64)) nb p4) na (0 : Int32) T25.heap JR hna hn2 (Or.inl ⟨upd_same _ _ _, rfl⟩)) (hb hby at_159) (by rw [hml]; rfl) rfl rfl (by decide) (by decide) (by decide) (by decide) rfl ?_
                  rintro v26 T26 L26 X26 ⟨rfl, e26, rfl⟩
                  refine W.ifNe X26 hx 182 165 (hb hby at_162) (by decide) (by decide) rfl (fun q => ?_) (fun q => ?_)
                  · exact absurd rfl q
                  · skip
                    refine W.aload X26 hx 167 (hb hby at_165) rfl rfl rfl ?_
                    refine W.iload X26 hx 169 (hb hby at_167) rfl rfl ?_
                    refine W.callV X26 hx hZ 172 0 o [(.int (Int32.ofNat na))] hown (hw _ (List.mem_of_getElem? (i := 165) rfl)) (hw _ (List.mem_of_getElem? (i := 166) rfl)) (hw _ (List.mem_of_getElem? (i := 168) rfl)) (hw _ (List.mem_of_getElem? (i := 167) rfl)) (hw _ (List.mem_of_getElem? (i := 2) rfl)) (hw _ (List.mem_of_getElem? (i := 169) rfl)) (by decide) pd_11 rfl e26 JR.exa (rmL l Z a0 hw n0 o n (up (fun _ : Nat => (0 : Int64)) na ((fun _ : Nat => (0 : Int64)) na + p5)) (upd (upd (fun _ : Nat => Value.null) nb (.ref kB)) na .null) (up (fun _ : Nat => (0 : Int64)) nb p4) na p5 T25.heap JR hna hn2 (Or.inl ⟨upd_same _ _ _, fA⟩)) (hb hby at_169) (by rw [hml]; rfl) rfl rfl (by decide) (by decide) (by decide) (by decide) rfl ?_
                    rintro v27 T27 L27 X27 ⟨rfl, e27, rfl⟩
                    refine W.lload X27 hx 174 (hb hby at_172) rfl rfl ?_
                    refine W.lcmp X27 hx 175 (hb hby at_174) rfl ?_
                    refine W.lifNe X27 hx 182 178 (hb hby at_175) (by decide) (by decide) rfl (fun q => ?_) (fun q => ?_)
                    · exact absurd rfl q
                    · skip
                      refine W.iconst X27 hx 179 (1 : Int32) (hb hby at_178) rfl rfl ?_
                      refine W.goto X27 hx 183 (hb hby at_179) (by decide) (by decide) ?_
                      refine W.istore X27 hx 185 #[.val (.int p1), .val (.int p2), .val (.long p3), .second, .val (.long p4), .second, .val (.long p5), .second, .val (.int p6), .val (.int (Int32.ofNat na)), .val (.int (Int32.ofNat nb)), .val (.int (0 : Int32)), .val (.int (1 : Int32)), .val (.ref o), .val (.int (1 : Int32)), .val (.int (1 : Int32)), .unset] (hb hby at_183) rfl rfl ?_
                      refine W.iload X27 hx 187 (hb hby at_185) rfl rfl ?_
                      refine W.iload X27 hx 189 (hb hby at_187) rfl rfl ?_
                      refine W.icmpEq X27 hx 226 192 (hb hby at_189) (by decide) (by decide) rfl (fun q => ?_) (fun q => ?_)
                      · exact absurd (own_eq (by omega) (by omega) q) hab
                      · skip
                        refine W.aload X27 hx 194 (hb hby at_192) rfl rfl rfl ?_
                        refine W.iload X27 hx 196 (hb hby at_194) rfl rfl ?_
                        refine W.callV X27 hx hZ 199 0 o [(.int (Int32.ofNat nb))] hown (hw _ (List.mem_of_getElem? (i := 160) rfl)) (hw _ (List.mem_of_getElem? (i := 161) rfl)) (hw _ (List.mem_of_getElem? (i := 163) rfl)) (hw _ (List.mem_of_getElem? (i := 162) rfl)) (hw _ (List.mem_of_getElem? (i := 2) rfl)) (hw _ (List.mem_of_getElem? (i := 164) rfl)) (by decide) pd_10 rfl e27 JR.exa (rmT l Z a0 hw n0 o n (up (fun _ : Nat => (0 : Int64)) na ((fun _ : Nat => (0 : Int64)) na + p5)) (upd (upd (fun _ : Nat => Value.null) nb (.ref kB)) na .null) (up (fun _ : Nat => (0 : Int64)) nb p4) nb (1 : Int32) T25.heap JR hnb hn2 (Or.inr ⟨⟨kB, gB⟩, rfl⟩)) (hb hby at_196) (by rw [hml]; rfl) rfl rfl (by decide) (by decide) (by decide) (by decide) rfl ?_
                        rintro v28 T28 L28 X28 ⟨rfl, e28, rfl⟩
                        refine W.iload X28 hx 201 (hb hby at_199) rfl rfl ?_
                        refine W.icmpNe X28 hx 230 204 (hb hby at_201) (by decide) (by decide) rfl (fun q => ?_) (fun q => ?_)
                        · exact absurd rfl q
                        · skip
                          refine W.aload X28 hx 206 (hb hby at_204) rfl rfl rfl ?_
                          refine W.iload X28 hx 208 (hb hby at_206) rfl rfl ?_
                          refine W.callV X28 hx hZ 211 0 o [(.int (Int32.ofNat nb))] hown (hw _ (List.mem_of_getElem? (i := 165) rfl)) (hw _ (List.mem_of_getElem? (i := 166) rfl)) (hw _ (List.mem_of_getElem? (i := 168) rfl)) (hw _ (List.mem_of_getElem? (i := 167) rfl)) (hw _ (List.mem_of_getElem? (i := 2) rfl)) (hw _ (List.mem_of_getElem? (i := 169) rfl)) (by decide) pd_11 rfl e28 JR.exa (rmL l Z a0 hw n0 o n (up (fun _ : Nat => (0 : Int64)) na ((fun _ : Nat => (0 : Int64)) na + p5)) (upd (upd (fun _ : Nat => Value.null) nb (.ref kB)) na .null) (up (fun _ : Nat => (0 : Int64)) nb p4) nb p4 T25.heap JR hnb hn2 (Or.inr ⟨⟨kB, gB⟩, xB⟩)) (hb hby at_208) (by rw [hml]; rfl) rfl rfl (by decide) (by decide) (by decide) (by decide) rfl ?_
                          rintro v29 T29 L29 X29 ⟨rfl, e29, rfl⟩
                          refine W.iload X29 hx 213 (hb hby at_211) rfl rfl ?_
                          refine W.ifEq X29 hx 221 216 (hb hby at_213) (by decide) (by decide) rfl (fun q => ?_) (fun q => ?_)
                          · exact absurd q (by decide)
                          · skip
                            refine W.lload X29 hx 218 (hb hby at_216) rfl rfl ?_
                            refine W.goto X29 hx 222 (hb hby at_218) (by decide) (by decide) ?_
                            refine W.lcmp X29 hx 223 (hb hby at_222) rfl ?_
                            refine W.lifNe X29 hx 230 226 (hb hby at_223) (by decide) (by decide) rfl (fun q => ?_) (fun q => ?_)
                            · exact absurd rfl q
                            · skip
                              refine W.iconst X29 hx 227 (1 : Int32) (hb hby at_226) rfl rfl ?_
                              refine W.goto X29 hx 231 (hb hby at_227) (by decide) (by decide) ?_
                              refine W.istore X29 hx 233 #[.val (.int p1), .val (.int p2), .val (.long p3), .second, .val (.long p4), .second, .val (.long p5), .second, .val (.int p6), .val (.int (Int32.ofNat na)), .val (.int (Int32.ofNat nb)), .val (.int (0 : Int32)), .val (.int (1 : Int32)), .val (.ref o), .val (.int (1 : Int32)), .val (.int (1 : Int32)), .val (.int (1 : Int32))] (hb hby at_231) rfl rfl ?_
                              refine W.iload X29 hx 235 (hb hby at_233) rfl rfl ?_
                              refine W.ifEq X29 hx 252 238 (hb hby at_235) (by decide) (by decide) rfl (fun q => ?_) (fun q => ?_)
                              · exact absurd q (by decide)
                              · skip
                                refine W.iload X29 hx 240 (hb hby at_238) rfl rfl ?_
                                refine W.ifEq X29 hx 252 243 (hb hby at_240) (by decide) (by decide) rfl (fun q => ?_) (fun q => ?_)
                                · exact absurd q (by decide)
                                · skip
                                  refine W.iload X29 hx 245 (hb hby at_243) rfl rfl ?_
                                  refine W.ifEq X29 hx 252 248 (hb hby at_245) (by decide) (by decide) rfl (fun q => ?_) (fun q => ?_)
                                  · exact absurd q (by decide)
                                  · skip
                                    refine W.iconst X29 hx 249 (1 : Int32) (hb hby at_248) rfl rfl ?_
                                    refine W.goto X29 hx 253 (hb hby at_249) (by decide) (by decide) ?_
                                    refine W.nret X29 hx hlk (t := .boolean) hret (by simp) (hb hby at_253) (by decide) (by decide) ?_
                                    exact ⟨rfl, (Fr.app (Fr.app (Fr.app (Fr.app (Fr.app (Fr.app (Fr.app (Fr.app (Fr.app (Fr.app (Fr.nil _) N20) N21) N22) (Fr.nil _)) (Fr.nil _)) N25) (Fr.nil _)) (Fr.nil _)) (Fr.nil _)) (Fr.nil _))⟩
              · exact absurd rfl q
        · exact absurd rfl q
  · skip
    refine W.iconst X0 hx 20 (1 : Int32) (hb hby at_19) rfl rfl ?_
    refine W.goto X0 hx 24 (hb hby at_20) (by decide) (by decide) ?_
    refine W.istore X0 hx 26 #[.val (.int p1), .val (.int p2), .val (.long p3), .second, .val (.long p4), .second, .val (.long p5), .second, .val (.int p6), .val (.int (Int32.ofNat na)), .val (.int (Int32.ofNat nb)), .val (.int (1 : Int32)), .unset, .unset, .unset, .unset, .unset] (hb hby at_24) rfl rfl ?_
    refine W.iload X0 hx 28 (hb hby at_26) rfl rfl ?_
    refine W.iconst X0 hx 29 (2 : Int32) (hb hby at_28) rfl rfl ?_
    refine W.iand X0 hx 30 (hb hby at_29) rfl ?_
    refine W.ifEq X0 hx 44 33 (hb hby at_30) (by decide) (by decide) rfl (fun q => ?_) (fun q => ?_)
    · skip
      refine W.iconst X0 hx 45 (0 : Int32) (hb hby at_44) rfl rfl ?_
      refine W.istore X0 hx 47 #[.val (.int p1), .val (.int p2), .val (.long p3), .second, .val (.long p4), .second, .val (.long p5), .second, .val (.int p6), .val (.int (Int32.ofNat na)), .val (.int (Int32.ofNat nb)), .val (.int (1 : Int32)), .val (.int (0 : Int32)), .unset, .unset, .unset, .unset] (hb hby at_45) rfl rfl ?_
      refine W.newO X0 hx hZ 50 hown (hw _ (List.mem_of_getElem? (i := 0) rfl)) (hw _ (List.mem_of_getElem? (i := 1) rfl)) (hw _ (List.mem_of_getElem? (i := 2) rfl)) e0 (hb hby at_47) (by decide) (by decide) rfl ?_
      intro T30 h30 o q30 X30 e30 E30 E D
      have ge_o : n0 ≤ o := by have := Z0; omega
      have SD := SD.ext E30
      have SZ := SZ.ext E30
      have z30 : n0 ≤ h30.size := Nat.le_trans Z0 E30.1
      have i_me := D (Or.inr (hw _ (List.mem_of_getElem? (i := 64) rfl))) (ty := (.object "com/example/margrave/margrave/engine/Holdings$Numbering")) (by decide)
      have i_cl := D (Or.inr (hw _ (List.mem_of_getElem? (i := 66) rfl))) (ty := (.object "com/example/margrave/margrave/engine/Holdings$Numbering")) (by decide)
      have i_co := D (Or.inr (hw _ (List.mem_of_getElem? (i := 68) rfl))) (ty := (.object "com/example/margrave/margrave/engine/Holdings$Numbering")) (by decide)
      have i_io := D (Or.inl (hw _ (List.mem_of_getElem? (i := 70) rfl))) (ty := .boolean) (by decide)
      have i_de := D (Or.inr (hw _ (List.mem_of_getElem? (i := 72) rfl))) (ty := .boolean) (by decide)
      have i_ha := D (Or.inl (hw _ (List.mem_of_getElem? (i := 76) rfl))) (ty := (.object "java/util/function/LongBinaryOperator")) (by decide)
      have f_m := D (Or.inl (hw _ (List.mem_of_getElem? (i := 87) rfl))) (ty := (.array .int)) (by decide)
      have f_cl := D (Or.inl (hw _ (List.mem_of_getElem? (i := 89) rfl))) (ty := (.array .int)) (by decide)
      have f_co := D (Or.inl (hw _ (List.mem_of_getElem? (i := 91) rfl))) (ty := (.array .int)) (by decide)
      have f_si := D (Or.inl (hw _ (List.mem_of_getElem? (i := 94) rfl))) (ty := (.array .byte)) (by decide)
      have f_pu := D (Or.inl (hw _ (List.mem_of_getElem? (i := 96) rfl))) (ty := (.array .byte)) (by decide)
      have f_be := D (Or.inl (hw _ (List.mem_of_getElem? (i := 99) rfl))) (ty := (.array .long)) (by decide)
      have f_en := D (Or.inl (hw _ (List.mem_of_getElem? (i := 101) rfl))) (ty := (.array (.object "com/example/margrave/margrave/engine/Holding"))) (by decide)
      have f_fe := D (Or.inl (hw _ (List.mem_of_getElem? (i := 103) rfl))) (ty := (.array .long)) (by decide)
      have f_fp := D (Or.inl (hw _ (List.mem_of_getElem? (i := 105) rfl))) (ty := (.array (.object "java/math/BigDecimal"))) (by decide)
      have f_ix := D (Or.inl (hw _ (List.mem_of_getElem? (i := 107) rfl))) (ty := (.object "com/example/margrave/margrave/engine/HashIndex")) (by decide)
      have f_g := D (Or.inl (hw _ (List.mem_of_getElem? (i := 74) rfl))) (ty := (.object "com/example/margrave/margrave/engine/LotGroups")) (by decide)
      refine W.dup X30 hx 51 (hb hby at_50) rfl rfl ?_
      refine W.iload X30 hx 53 (hb hby at_51) rfl rfl ?_
      refine W.iconst X30 hx 54 (2 : Int32) (hb hby at_53) rfl rfl ?_
      refine W.iushr X30 hx 55 (hb hby at_54) rfl ?_
      refine W.bipush X30 hx 57 (31 : Int32) (hb hby at_55) rfl rfl ?_
      obtain ⟨ex, hex, eex⟩ := own_and ((p6).toUInt32 >>> ((2 : Int32) &&& 31).toUInt32).toInt32 31 (by decide)
      have hex : ex ≤ 31 := by have e : (31 : Int32).toInt = 31 := rfl; omega
      have eex := own_ieq eex
      refine W.iand X30 hx 58 (hb hby at_57) rfl ?_
      rw [eex]
      obtain ⟨n, hn⟩ : ∃ z : Nat, z = if ex < 16 then 16 else ex := ⟨_, rfl⟩
      have hn2 : 16 ≤ n ∧ n ≤ 31 := by split at hn <;> omega
      have EO := E
      refine W.callI X30 hx hZ 61 1 o [(.int (Int32.ofNat ex))] rfl hown (hw _ (List.mem_of_getElem? (i := 3) rfl)) (hw _ (List.mem_of_getElem? (i := 4) rfl)) (hw _ (List.mem_of_getElem? (i := 2) rfl)) (hw _ (List.mem_of_getElem? (i := 5) rfl)) (by decide) pd_2 rfl e30 (rmI1 l Z a0 hw o dv ex n h30 n0 z30 E i_me i_cl i_co i_io i_de i_ha f_m f_cl f_co f_si f_pu f_be f_en f_fe f_fp f_ix f_g SD hn hex ge_o) (hb hby at_58) (by rw [hml]; rfl) rfl rfl (by decide) (by decide) (by decide) (by decide) rfl ?_
      rintro v31 T31 L31 X31 ⟨rfl, N31, K31, mb, bf, O31⟩
      have SZ := Sta.keepE SZ K31 EO
      have z31 : n0 ≤ T31.heap.size := Nat.le_trans z30 K31.1
      have J0 : HJ Z T31.heap n0 o n (fun _ : Nat => (0 : Int64)) (fun _ : Nat => Value.null) (fun _ : Nat => (0 : Int64)) := ⟨mb, bf, .null, O31, Or.inl ⟨rfl, fun _ => rfl⟩, fun _ _ _ => Or.inl rfl⟩
      refine W.astore X31 hx 63 #[.val (.int p1), .val (.int p2), .val (.long p3), .second, .val (.long p4), .second, .val (.long p5), .second, .val (.int p6), .val (.int (Int32.ofNat na)), .val (.int (Int32.ofNat nb)), .val (.int (1 : Int32)), .val (.int (0 : Int32)), .val (.ref o), .unset, .unset, .unset] (hb hby at_61) rfl rfl rfl ?_
      refine W.iload X31 hx 65 (hb hby at_63) rfl rfl ?_
      refine W.ifEq X31 hx 79 68 (hb hby at_65) (by decide) (by decide) rfl (fun q => ?_) (fun q => ?_)
      · exact absurd q (by decide)
      · skip
        refine W.aload X31 hx 70 (hb hby at_68) rfl rfl rfl ?_
        refine W.iload X31 hx 72 (hb hby at_70) rfl rfl ?_
        refine W.anull X31 hx 73 (hb hby at_72) rfl ?_
        refine W.anull X31 hx 74 (hb hby at_73) rfl ?_
        refine W.lloadN X31 hx 75 (hb hby at_74) rfl rfl ?_
        refine W.iconst X31 hx 76 (0 : Int32) (hb hby at_75) rfl rfl ?_
        refine W.callV X31 hx hZ 79 0 o [(.int (Int32.ofNat na)), .null, .null, (.long p3), (.int (0 : Int32))] hown (hw _ (List.mem_of_getElem? (i := 108) rfl)) (hw _ (List.mem_of_getElem? (i := 109) rfl)) (hw _ (List.mem_of_getElem? (i := 111) rfl)) (hw _ (List.mem_of_getElem? (i := 110) rfl)) (hw _ (List.mem_of_getElem? (i := 2) rfl)) (hw _ (List.mem_of_getElem? (i := 112) rfl)) (by decide) pd_12 rfl rfl J0.exa (rmO l Z a0 hw o n (fun _ : Nat => (0 : Int64)) (fun _ : Nat => Value.null) (fun _ : Nat => (0 : Int64)) na p3 (0 : Int32) bz T31.heap n0 z31 J0 hna hn2 SZ rfl rfl) (hb hby at_76) (by rw [hml]; rfl) rfl rfl (by decide) (by decide) (by decide) (by decide) rfl ?_
        rintro v32 T32 L32 X32 ⟨rfl, N32, hz32, SZ, kA, JA⟩
        have z32 : n0 ≤ T32.heap.size := Nat.le_trans z31 hz32
        refine W.iload X32 hx 81 (hb hby at_79) rfl rfl ?_
        refine W.ifEq X32 hx 96 84 (hb hby at_81) (by decide) (by decide) rfl (fun q => ?_) (fun q => ?_)
        · skip
          refine W.aload X32 hx 98 (hb hby at_96) rfl rfl rfl ?_
          refine W.iload X32 hx 100 (hb hby at_98) rfl rfl ?_
          refine W.iconst X32 hx 101 (0 : Int32) (hb hby at_100) rfl rfl ?_
          refine W.anull X32 hx 102 (hb hby at_101) rfl ?_
          refine W.lload X32 hx 104 (hb hby at_102) rfl rfl ?_
          refine W.callV X32 hx hZ 107 0 o [(.int (Int32.ofNat na)), (.int (0 : Int32)), .null, (.long p5)] hown (hw _ (List.mem_of_getElem? (i := 155) rfl)) (hw _ (List.mem_of_getElem? (i := 156) rfl)) (hw _ (List.mem_of_getElem? (i := 158) rfl)) (hw _ (List.mem_of_getElem? (i := 157) rfl)) (hw _ (List.mem_of_getElem? (i := 2) rfl)) (hw _ (List.mem_of_getElem? (i := 159) rfl)) (by decide) pd_9 rfl rfl JA.exa (rmB l Z a0 hw o n (fun _ : Nat => (0 : Int64)) (upd (fun _ : Nat => Value.null) na (.ref kA)) (up (fun _ : Nat => (0 : Int64)) na p3) na p5 T32.heap n0 z32 JA hna hn2) (hb hby at_104) (by rw [hml]; rfl) rfl rfl (by decide) (by decide) (by decide) (by decide) rfl ?_
          rintro v33 T33 L33 X33 ⟨rfl, N33, hz33, JH⟩
          have z33 : n0 ≤ T33.heap.size := Nat.le_trans z32 hz33
          have gA : (upd (fun _ : Nat => Value.null) na (.ref kA)) na = .ref kA := upd_same _ _ _
          have xA : (up (fun _ : Nat => (0 : Int64)) na p3) na = p3 := up_same _ _ _
          have fA : (up (fun _ : Nat => (0 : Int64)) na ((fun _ : Nat => (0 : Int64)) na + p5)) na = p5 := by rw [up_same]; exact Int64.zero_add p5
          refine W.aload X33 hx 109 (hb hby at_107) rfl rfl rfl ?_
          refine W.iload X33 hx 111 (hb hby at_109) rfl rfl ?_
          refine W.callV X33 hx hZ 114 0 o [(.int (Int32.ofNat na))] hown (hw _ (List.mem_of_getElem? (i := 160) rfl)) (hw _ (List.mem_of_getElem? (i := 161) rfl)) (hw _ (List.mem_of_getElem? (i := 163) rfl)) (hw _ (List.mem_of_getElem? (i := 162) rfl)) (hw _ (List.mem_of_getElem? (i := 2) rfl)) (hw _ (List.mem_of_getElem? (i := 164) rfl)) (by decide) pd_10 rfl rfl JH.exa (rmT l Z a0 hw n0 o n (up (fun _ : Nat => (0 : Int64)) na ((fun _ : Nat => (0 : Int64)) na + p5)) (upd (fun _ : Nat => Value.null) na (.ref kA)) (up (fun _ : Nat => (0 : Int64)) na p3) na (1 : Int32) T33.heap JH hna hn2 (Or.inr ⟨⟨kA, gA⟩, rfl⟩)) (hb hby at_111) (by rw [hml]; rfl) rfl rfl (by decide) (by decide) (by decide) (by decide) rfl ?_
          rintro v34 T34 L34 X34 ⟨rfl, e34, rfl⟩
          refine W.iload X34 hx 116 (hb hby at_114) rfl rfl ?_
          refine W.icmpNe X34 hx 145 119 (hb hby at_116) (by decide) (by decide) rfl (fun q => ?_) (fun q => ?_)
          · exact absurd rfl q
          · skip
            refine W.aload X34 hx 121 (hb hby at_119) rfl rfl rfl ?_
            refine W.iload X34 hx 123 (hb hby at_121) rfl rfl ?_
            refine W.callV X34 hx hZ 126 0 o [(.int (Int32.ofNat na))] hown (hw _ (List.mem_of_getElem? (i := 165) rfl)) (hw _ (List.mem_of_getElem? (i := 166) rfl)) (hw _ (List.mem_of_getElem? (i := 168) rfl)) (hw _ (List.mem_of_getElem? (i := 167) rfl)) (hw _ (List.mem_of_getElem? (i := 2) rfl)) (hw _ (List.mem_of_getElem? (i := 169) rfl)) (by decide) pd_11 rfl e34 JH.exa (rmL l Z a0 hw n0 o n (up (fun _ : Nat => (0 : Int64)) na ((fun _ : Nat => (0 : Int64)) na + p5)) (upd (fun _ : Nat => Value.null) na (.ref kA)) (up (fun _ : Nat => (0 : Int64)) na p3) na p3 T33.heap JH hna hn2 (Or.inr ⟨⟨kA, gA⟩, xA⟩)) (hb hby at_123) (by rw [hml]; rfl) rfl rfl (by decide) (by decide) (by decide) (by decide) rfl ?_
            rintro v35 T35 L35 X35 ⟨rfl, e35, rfl⟩
            refine W.iload X35 hx 128 (hb hby at_126) rfl rfl ?_
            refine W.ifEq X35 hx 135 131 (hb hby at_128) (by decide) (by decide) rfl (fun q => ?_) (fun q => ?_)
            · exact absurd q (by decide)
            · skip
              refine W.lloadN X35 hx 132 (hb hby at_131) rfl rfl ?_
              refine W.goto X35 hx 137 (hb hby at_132) (by decide) (by decide) ?_
              refine W.lcmp X35 hx 138 (hb hby at_137) rfl ?_
              refine W.lifNe X35 hx 145 141 (hb hby at_138) (by decide) (by decide) rfl (fun q => ?_) (fun q => ?_)
              · exact absurd rfl q
              · skip
                refine W.iconst X35 hx 142 (1 : Int32) (hb hby at_141) rfl rfl ?_
                refine W.goto X35 hx 146 (hb hby at_142) (by decide) (by decide) ?_
                refine W.istore X35 hx 148 #[.val (.int p1), .val (.int p2), .val (.long p3), .second, .val (.long p4), .second, .val (.long p5), .second, .val (.int p6), .val (.int (Int32.ofNat na)), .val (.int (Int32.ofNat nb)), .val (.int (1 : Int32)), .val (.int (0 : Int32)), .val (.ref o), .val (.int (1 : Int32)), .unset, .unset] (hb hby at_146) rfl rfl ?_
                refine W.aload X35 hx 150 (hb hby at_148) rfl rfl rfl ?_
                refine W.iload X35 hx 152 (hb hby at_150) rfl rfl ?_
                refine W.callV X35 hx hZ 155 0 o [(.int (Int32.ofNat na))] hown (hw _ (List.mem_of_getElem? (i := 175) rfl)) (hw _ (List.mem_of_getElem? (i := 176) rfl)) (hw _ (List.mem_of_getElem? (i := 178) rfl)) (hw _ (List.mem_of_getElem? (i := 177) rfl)) (hw _ (List.mem_of_getElem? (i := 2) rfl)) (hw _ (List.mem_of_getElem? (i := 179) rfl)) (by decide) pd_2 rfl e35 JH.exa (rmR l Z a0 hw o n (up (fun _ : Nat => (0 : Int64)) na ((fun _ : Nat => (0 : Int64)) na + p5)) (upd (fun _ : Nat => Value.null) na (.ref kA)) (up (fun _ : Nat => (0 : Int64)) na p3) na T33.heap n0 z33 JH hna hn2) (hb hby at_152) (by rw [hml]; rfl) rfl rfl (by decide) (by decide) (by decide) (by decide) rfl ?_
                rintro v36 T36 L36 X36 ⟨rfl, N36, hz36, JR⟩
                have z36 : n0 ≤ T36.heap.size := Nat.le_trans z33 hz36
                refine W.aload X36 hx 157 (hb hby at_155) rfl rfl rfl ?_
                refine W.iload X36 hx 159 (hb hby at_157) rfl rfl ?_
                refine W.callV X36 hx hZ 162 0 o [(.int (Int32.ofNat na))] hown (hw _ (List.mem_of_getElem? (i := 160) rfl)) (hw _ (List.mem_of_getElem? (i := 161) rfl)) (hw _ (List.mem_of_getElem? (i := 163) rfl)) (hw _ (List.mem_of_getElem? (i := 162) rfl)) (hw _ (List.mem_of_getElem? (i := 2) rfl)) (hw _ (List.mem_of_getElem? (i := 164) rfl)) (by decide) pd_10 rfl rfl JR.exa (rmT l Z a0 hw n0 o n (up (fun _ : Nat => (0 : Int64)) na ((fun _ : Nat => (0 : Int64)) na + p5)) (upd (upd (fun _ : Nat => Value.null) na (.ref kA)) na .null) (up (fun _ : Nat => (0 : Int64)) na p3) na (0 : Int32) T36.heap JR hna hn2 (Or.inl ⟨upd_same _ _ _, rfl⟩)) (hb hby at_159) (by rw [hml]; rfl) rfl rfl (by decide) (by decide) (by decide) (by decide) rfl ?_
                rintro v37 T37 L37 X37 ⟨rfl, e37, rfl⟩
                refine W.ifNe X37 hx 182 165 (hb hby at_162) (by decide) (by decide) rfl (fun q => ?_) (fun q => ?_)
                · exact absurd rfl q
                · skip
                  refine W.aload X37 hx 167 (hb hby at_165) rfl rfl rfl ?_
                  refine W.iload X37 hx 169 (hb hby at_167) rfl rfl ?_
                  refine W.callV X37 hx hZ 172 0 o [(.int (Int32.ofNat na))] hown (hw _ (List.mem_of_getElem? (i := 165) rfl)) (hw _ (List.mem_of_getElem? (i := 166) rfl)) (hw _ (List.mem_of_getElem? (i := 168) rfl)) (hw _ (List.mem_of_getElem? (i := 167) rfl)) (hw _ (List.mem_of_getElem? (i := 2) rfl)) (hw _ (List.mem_of_getElem? (i := 169) rfl)) (by decide) pd_11 rfl e37 JR.exa (rmL l Z a0 hw n0 o n (up (fun _ : Nat => (0 : Int64)) na ((fun _ : Nat => (0 : Int64)) na + p5)) (upd (upd (fun _ : Nat => Value.null) na (.ref kA)) na .null) (up (fun _ : Nat => (0 : Int64)) na p3) na p5 T36.heap JR hna hn2 (Or.inl ⟨upd_same _ _ _, fA⟩)) (hb hby at_169) (by rw [hml]; rfl) rfl rfl (by decide) (by decide) (by decide) (by decide) rfl ?_
                  rintro v38 T38 L38 X38 ⟨rfl, e38, rfl⟩
                  refine W.lload X38 hx 174 (hb hby at_172) rfl rfl ?_
                  refine W.lcmp X38 hx 175 (hb hby at_174) rfl ?_
                  refine W.lifNe X38 hx 182 178 (hb hby at_175) (by decide) (by decide) rfl (fun q => ?_) (fun q => ?_)
                  · exact absurd rfl q
                  · skip
                    refine W.iconst X38 hx 179 (1 : Int32) (hb hby at_178) rfl rfl ?_
                    refine W.goto X38 hx 183 (hb hby at_179) (by decide) (by decide) ?_
                    refine W.istore X38 hx 185 #[.val (.int p1), .val (.int p2), .val (.long p3), .second, .val (.long p4), .second, .val (.long p5), .second, .val (.int p6), .val (.int (Int32.ofNat na)), .val (.int (Int32.ofNat nb)), .val (.int (1 : Int32)), .val (.int (0 : Int32)), .val (.ref o), .val (.int (1 : Int32)), .val (.int (1 : Int32)), .unset] (hb hby at_183) rfl rfl ?_
                    refine W.iload X38 hx 187 (hb hby at_185) rfl rfl ?_
                    refine W.iload X38 hx 189 (hb hby at_187) rfl rfl ?_
                    refine W.icmpEq X38 hx 226 192 (hb hby at_189) (by decide) (by decide) rfl (fun q => ?_) (fun q => ?_)
                    · skip
                      refine W.iconst X38 hx 227 (1 : Int32) (hb hby at_226) rfl rfl ?_
                      refine W.goto X38 hx 231 (hb hby at_227) (by decide) (by decide) ?_
                      refine W.istore X38 hx 233 #[.val (.int p1), .val (.int p2), .val (.long p3), .second, .val (.long p4), .second, .val (.long p5), .second, .val (.int p6), .val (.int (Int32.ofNat na)), .val (.int (Int32.ofNat nb)), .val (.int (1 : Int32)), .val (.int (0 : Int32)), .val (.ref o), .val (.int (1 : Int32)), .val (.int (1 : Int32)), .val (.int (1 : Int32))] (hb hby at_231) rfl rfl ?_
                      refine W.iload X38 hx 235 (hb hby at_233) rfl rfl ?_
                      refine W.ifEq X38 hx 252 238 (hb hby at_235) (by decide) (by decide) rfl (fun q => ?_) (fun q => ?_)
                      · exact absurd q (by decide)
                      · skip
                        refine W.iload X38 hx 240 (hb hby at_238) rfl rfl ?_
                        refine W.ifEq X38 hx 252 243 (hb hby at_240) (by decide) (by decide) rfl (fun q => ?_) (fun q => ?_)
                        · exact absurd q (by decide)
                        · skip
                          refine W.iload X38 hx 245 (hb hby at_243) rfl rfl ?_
                          refine W.ifEq X38 hx 252 248 (hb hby at_245) (by decide) (by decide) rfl (fun q => ?_) (fun q => ?_)
                          · exact absurd q (by decide)
                          · skip
                            refine W.iconst X38 hx 249 (1 : Int32) (hb hby at_248) rfl rfl ?_
                            refine W.goto X38 hx 253 (hb hby at_249) (by decide) (by decide) ?_
                            refine W.nret X38 hx hlk (t := .boolean) hret (by simp) (hb hby at_253) (by decide) (by decide) ?_
                            exact ⟨rfl, (Fr.app (Fr.app (Fr.app (Fr.app (Fr.app (Fr.app (Fr.app (Fr.app (Fr.nil _) N31) N32) N33) (Fr.nil _)) (Fr.nil _)) N36) (Fr.nil _)) (Fr.nil _))⟩
                    · skip
                      have hab : nb ≠ na := fun z => q (by rw [z])
                      have gB : (upd (upd (fun _ : Nat => Value.null) na (.ref kA)) na .null) nb = .null := by rw [upd_ne hab]; exact upd_ne hab
                      have fB : (up (fun _ : Nat => (0 : Int64)) na ((fun _ : Nat => (0 : Int64)) na + p5)) nb = 0 := up_ne hab
                      refine W.aload X38 hx 194 (hb hby at_192) rfl rfl rfl ?_
                      refine W.iload X38 hx 196 (hb hby at_194) rfl rfl ?_
                      refine W.callV X38 hx hZ 199 0 o [(.int (Int32.ofNat nb))] hown (hw _ (List.mem_of_getElem? (i := 160) rfl)) (hw _ (List.mem_of_getElem? (i := 161) rfl)) (hw _ (List.mem_of_getElem? (i := 163) rfl)) (hw _ (List.mem_of_getElem? (i := 162) rfl)) (hw _ (List.mem_of_getElem? (i := 2) rfl)) (hw _ (List.mem_of_getElem? (i := 164) rfl)) (by decide) pd_10 rfl e38 JR.exa (rmT l Z a0 hw n0 o n (up (fun _ : Nat => (0 : Int64)) na ((fun _ : Nat => (0 : Int64)) na + p5)) (upd (upd (fun _ : Nat => Value.null) na (.ref kA)) na .null) (up (fun _ : Nat => (0 : Int64)) na p3) nb (0 : Int32) T36.heap JR hnb hn2 (Or.inl ⟨gB, rfl⟩)) (hb hby at_196) (by rw [hml]; rfl) rfl rfl (by decide) (by decide) (by decide) (by decide) rfl ?_
                      rintro v39 T39 L39 X39 ⟨rfl, e39, rfl⟩
                      refine W.iload X39 hx 201 (hb hby at_199) rfl rfl ?_
                      refine W.icmpNe X39 hx 230 204 (hb hby at_201) (by decide) (by decide) rfl (fun q => ?_) (fun q => ?_)
                      · exact absurd rfl q
                      · skip
                        refine W.aload X39 hx 206 (hb hby at_204) rfl rfl rfl ?_
                        refine W.iload X39 hx 208 (hb hby at_206) rfl rfl ?_
                        refine W.callV X39 hx hZ 211 0 o [(.int (Int32.ofNat nb))] hown (hw _ (List.mem_of_getElem? (i := 165) rfl)) (hw _ (List.mem_of_getElem? (i := 166) rfl)) (hw _ (List.mem_of_getElem? (i := 168) rfl)) (hw _ (List.mem_of_getElem? (i := 167) rfl)) (hw _ (List.mem_of_getElem? (i := 2) rfl)) (hw _ (List.mem_of_getElem? (i := 169) rfl)) (by decide) pd_11 rfl e39 JR.exa (rmL l Z a0 hw n0 o n (up (fun _ : Nat => (0 : Int64)) na ((fun _ : Nat => (0 : Int64)) na + p5)) (upd (upd (fun _ : Nat => Value.null) na (.ref kA)) na .null) (up (fun _ : Nat => (0 : Int64)) na p3) nb (0 : Int64) T36.heap JR hnb hn2 (Or.inl ⟨gB, fB⟩)) (hb hby at_208) (by rw [hml]; rfl) rfl rfl (by decide) (by decide) (by decide) (by decide) rfl ?_
                        rintro v40 T40 L40 X40 ⟨rfl, e40, rfl⟩
                        refine W.iload X40 hx 213 (hb hby at_211) rfl rfl ?_
                        refine W.ifEq X40 hx 221 216 (hb hby at_213) (by decide) (by decide) rfl (fun q => ?_) (fun q => ?_)
                        · skip
                          refine W.lconst X40 hx 222 (0 : Int64) (hb hby at_221) rfl rfl ?_
                          refine W.lcmp X40 hx 223 (hb hby at_222) rfl ?_
                          refine W.lifNe X40 hx 230 226 (hb hby at_223) (by decide) (by decide) rfl (fun q => ?_) (fun q => ?_)
                          · exact absurd rfl q
                          · skip
                            refine W.iconst X40 hx 227 (1 : Int32) (hb hby at_226) rfl rfl ?_
                            refine W.goto X40 hx 231 (hb hby at_227) (by decide) (by decide) ?_
                            refine W.istore X40 hx 233 #[.val (.int p1), .val (.int p2), .val (.long p3), .second, .val (.long p4), .second, .val (.long p5), .second, .val (.int p6), .val (.int (Int32.ofNat na)), .val (.int (Int32.ofNat nb)), .val (.int (1 : Int32)), .val (.int (0 : Int32)), .val (.ref o), .val (.int (1 : Int32)), .val (.int (1 : Int32)), .val (.int (1 : Int32))] (hb hby at_231) rfl rfl ?_
                            refine W.iload X40 hx 235 (hb hby at_233) rfl rfl ?_
                            refine W.ifEq X40 hx 252 238 (hb hby at_235) (by decide) (by decide) rfl (fun q => ?_) (fun q => ?_)
                            · exact absurd q (by decide)
                            · skip
                              refine W.iload X40 hx 240 (hb hby at_238) rfl rfl ?_
                              refine W.ifEq X40 hx 252 243 (hb hby at_240) (by decide) (by decide) rfl (fun q => ?_) (fun q => ?_)
                              · exact absurd q (by decide)
                              · skip
                                refine W.iload X40 hx 245 (hb hby at_243) rfl rfl ?_
                                refine W.ifEq X40 hx 252 248 (hb hby at_245) (by decide) (by decide) rfl (fun q => ?_) (fun q => ?_)
                                · exact absurd q (by decide)
                                · skip
                                  refine W.iconst X40 hx 249 (1 : Int32) (hb hby at_248) rfl rfl ?_
                                  refine W.goto X40 hx 253 (hb hby at_249) (by decide) (by decide) ?_
                                  refine W.nret X40 hx hlk (t := .boolean) hret (by simp) (hb hby at_253) (by decide) (by decide) ?_
                                  exact ⟨rfl, (Fr.app (Fr.app (Fr.app (Fr.app (Fr.app (Fr.app (Fr.app (Fr.app (Fr.app (Fr.app (Fr.nil _) N31) N32) N33) (Fr.nil _)) (Fr.nil _)) N36) (Fr.nil _)) (Fr.nil _)) (Fr.nil _)) (Fr.nil _))⟩
                        · exact absurd rfl q
        · exact absurd rfl q
    · skip
      refine W.iload X0 hx 35 (hb hby at_33) rfl rfl ?_
      refine W.iload X0 hx 37 (hb hby at_35) rfl rfl ?_
      refine W.icmpEq X0 hx 44 40 (hb hby at_37) (by decide) (by decide) rfl (fun q => ?_) (fun q => ?_)
      · skip
        have hab : nb = na := own_eq (by omega) (by omega) q
        refine W.iconst X0 hx 45 (0 : Int32) (hb hby at_44) rfl rfl ?_
        refine W.istore X0 hx 47 #[.val (.int p1), .val (.int p2), .val (.long p3), .second, .val (.long p4), .second, .val (.long p5), .second, .val (.int p6), .val (.int (Int32.ofNat na)), .val (.int (Int32.ofNat nb)), .val (.int (1 : Int32)), .val (.int (0 : Int32)), .unset, .unset, .unset, .unset] (hb hby at_45) rfl rfl ?_
        refine W.newO X0 hx hZ 50 hown (hw _ (List.mem_of_getElem? (i := 0) rfl)) (hw _ (List.mem_of_getElem? (i := 1) rfl)) (hw _ (List.mem_of_getElem? (i := 2) rfl)) e0 (hb hby at_47) (by decide) (by decide) rfl ?_
        intro T41 h41 o q41 X41 e41 E41 E D
        have ge_o : n0 ≤ o := by have := Z0; omega
        have SD := SD.ext E41
        have SZ := SZ.ext E41
        have z41 : n0 ≤ h41.size := Nat.le_trans Z0 E41.1
        have i_me := D (Or.inr (hw _ (List.mem_of_getElem? (i := 64) rfl))) (ty := (.object "com/example/margrave/margrave/engine/Holdings$Numbering")) (by decide)
        have i_cl := D (Or.inr (hw _ (List.mem_of_getElem? (i := 66) rfl))) (ty := (.object "com/example/margrave/margrave/engine/Holdings$Numbering")) (by decide)
        have i_co := D (Or.inr (hw _ (List.mem_of_getElem? (i := 68) rfl))) (ty := (.object "com/example/margrave/margrave/engine/Holdings$Numbering")) (by decide)
        have i_io := D (Or.inl (hw _ (List.mem_of_getElem? (i := 70) rfl))) (ty := .boolean) (by decide)
        have i_de := D (Or.inr (hw _ (List.mem_of_getElem? (i := 72) rfl))) (ty := .boolean) (by decide)
        have i_ha := D (Or.inl (hw _ (List.mem_of_getElem? (i := 76) rfl))) (ty := (.object "java/util/function/LongBinaryOperator")) (by decide)
        have f_m := D (Or.inl (hw _ (List.mem_of_getElem? (i := 87) rfl))) (ty := (.array .int)) (by decide)
        have f_cl := D (Or.inl (hw _ (List.mem_of_getElem? (i := 89) rfl))) (ty := (.array .int)) (by decide)
        have f_co := D (Or.inl (hw _ (List.mem_of_getElem? (i := 91) rfl))) (ty := (.array .int)) (by decide)
        have f_si := D (Or.inl (hw _ (List.mem_of_getElem? (i := 94) rfl))) (ty := (.array .byte)) (by decide)
        have f_pu := D (Or.inl (hw _ (List.mem_of_getElem? (i := 96) rfl))) (ty := (.array .byte)) (by decide)
        have f_be := D (Or.inl (hw _ (List.mem_of_getElem? (i := 99) rfl))) (ty := (.array .long)) (by decide)
        have f_en := D (Or.inl (hw _ (List.mem_of_getElem? (i := 101) rfl))) (ty := (.array (.object "com/example/margrave/margrave/engine/Holding"))) (by decide)
        have f_fe := D (Or.inl (hw _ (List.mem_of_getElem? (i := 103) rfl))) (ty := (.array .long)) (by decide)
        have f_fp := D (Or.inl (hw _ (List.mem_of_getElem? (i := 105) rfl))) (ty := (.array (.object "java/math/BigDecimal"))) (by decide)
        have f_ix := D (Or.inl (hw _ (List.mem_of_getElem? (i := 107) rfl))) (ty := (.object "com/example/margrave/margrave/engine/HashIndex")) (by decide)
        have f_g := D (Or.inl (hw _ (List.mem_of_getElem? (i := 74) rfl))) (ty := (.object "com/example/margrave/margrave/engine/LotGroups")) (by decide)
        refine W.dup X41 hx 51 (hb hby at_50) rfl rfl ?_
        refine W.iload X41 hx 53 (hb hby at_51) rfl rfl ?_
        refine W.iconst X41 hx 54 (2 : Int32) (hb hby at_53) rfl rfl ?_
        refine W.iushr X41 hx 55 (hb hby at_54) rfl ?_
        refine W.bipush X41 hx 57 (31 : Int32) (hb hby at_55) rfl rfl ?_
        obtain ⟨ex, hex, eex⟩ := own_and ((p6).toUInt32 >>> ((2 : Int32) &&& 31).toUInt32).toInt32 31 (by decide)
        have hex : ex ≤ 31 := by have e : (31 : Int32).toInt = 31 := rfl; omega
        have eex := own_ieq eex
        refine W.iand X41 hx 58 (hb hby at_57) rfl ?_
        rw [eex]
        obtain ⟨n, hn⟩ : ∃ z : Nat, z = if ex < 16 then 16 else ex := ⟨_, rfl⟩
        have hn2 : 16 ≤ n ∧ n ≤ 31 := by split at hn <;> omega
        have EO := E
        refine W.callI X41 hx hZ 61 1 o [(.int (Int32.ofNat ex))] rfl hown (hw _ (List.mem_of_getElem? (i := 3) rfl)) (hw _ (List.mem_of_getElem? (i := 4) rfl)) (hw _ (List.mem_of_getElem? (i := 2) rfl)) (hw _ (List.mem_of_getElem? (i := 5) rfl)) (by decide) pd_2 rfl e41 (rmI1 l Z a0 hw o dv ex n h41 n0 z41 E i_me i_cl i_co i_io i_de i_ha f_m f_cl f_co f_si f_pu f_be f_en f_fe f_fp f_ix f_g SD hn hex ge_o) (hb hby at_58) (by rw [hml]; rfl) rfl rfl (by decide) (by decide) (by decide) (by decide) rfl ?_
        rintro v42 T42 L42 X42 ⟨rfl, N42, K42, mb, bf, O42⟩
        have SZ := Sta.keepE SZ K42 EO
        have z42 : n0 ≤ T42.heap.size := Nat.le_trans z41 K42.1
        have J0 : HJ Z T42.heap n0 o n (fun _ : Nat => (0 : Int64)) (fun _ : Nat => Value.null) (fun _ : Nat => (0 : Int64)) := ⟨mb, bf, .null, O42, Or.inl ⟨rfl, fun _ => rfl⟩, fun _ _ _ => Or.inl rfl⟩
        refine W.astore X42 hx 63 #[.val (.int p1), .val (.int p2), .val (.long p3), .second, .val (.long p4), .second, .val (.long p5), .second, .val (.int p6), .val (.int (Int32.ofNat na)), .val (.int (Int32.ofNat nb)), .val (.int (1 : Int32)), .val (.int (0 : Int32)), .val (.ref o), .unset, .unset, .unset] (hb hby at_61) rfl rfl rfl ?_
        refine W.iload X42 hx 65 (hb hby at_63) rfl rfl ?_
        refine W.ifEq X42 hx 79 68 (hb hby at_65) (by decide) (by decide) rfl (fun q => ?_) (fun q => ?_)
        · exact absurd q (by decide)
        · skip
          refine W.aload X42 hx 70 (hb hby at_68) rfl rfl rfl ?_
          refine W.iload X42 hx 72 (hb hby at_70) rfl rfl ?_
          refine W.anull X42 hx 73 (hb hby at_72) rfl ?_
          refine W.anull X42 hx 74 (hb hby at_73) rfl ?_
          refine W.lloadN X42 hx 75 (hb hby at_74) rfl rfl ?_
          refine W.iconst X42 hx 76 (0 : Int32) (hb hby at_75) rfl rfl ?_
          refine W.callV X42 hx hZ 79 0 o [(.int (Int32.ofNat na)), .null, .null, (.long p3), (.int (0 : Int32))] hown (hw _ (List.mem_of_getElem? (i := 108) rfl)) (hw _ (List.mem_of_getElem? (i := 109) rfl)) (hw _ (List.mem_of_getElem? (i := 111) rfl)) (hw _ (List.mem_of_getElem? (i := 110) rfl)) (hw _ (List.mem_of_getElem? (i := 2) rfl)) (hw _ (List.mem_of_getElem? (i := 112) rfl)) (by decide) pd_12 rfl rfl J0.exa (rmO l Z a0 hw o n (fun _ : Nat => (0 : Int64)) (fun _ : Nat => Value.null) (fun _ : Nat => (0 : Int64)) na p3 (0 : Int32) bz T42.heap n0 z42 J0 hna hn2 SZ rfl rfl) (hb hby at_76) (by rw [hml]; rfl) rfl rfl (by decide) (by decide) (by decide) (by decide) rfl ?_
          rintro v43 T43 L43 X43 ⟨rfl, N43, hz43, SZ, kA, JA⟩
          have z43 : n0 ≤ T43.heap.size := Nat.le_trans z42 hz43
          refine W.iload X43 hx 81 (hb hby at_79) rfl rfl ?_
          refine W.ifEq X43 hx 96 84 (hb hby at_81) (by decide) (by decide) rfl (fun q => ?_) (fun q => ?_)
          · skip
            refine W.aload X43 hx 98 (hb hby at_96) rfl rfl rfl ?_
            refine W.iload X43 hx 100 (hb hby at_98) rfl rfl ?_
            refine W.iconst X43 hx 101 (0 : Int32) (hb hby at_100) rfl rfl ?_
            refine W.anull X43 hx 102 (hb hby at_101) rfl ?_
            refine W.lload X43 hx 104 (hb hby at_102) rfl rfl ?_
            refine W.callV X43 hx hZ 107 0 o [(.int (Int32.ofNat na)), (.int (0 : Int32)), .null, (.long p5)] hown (hw _ (List.mem_of_getElem? (i := 155) rfl)) (hw _ (List.mem_of_getElem? (i := 156) rfl)) (hw _ (List.mem_of_getElem? (i := 158) rfl)) (hw _ (List.mem_of_getElem? (i := 157) rfl)) (hw _ (List.mem_of_getElem? (i := 2) rfl)) (hw _ (List.mem_of_getElem? (i := 159) rfl)) (by decide) pd_9 rfl rfl JA.exa (rmB l Z a0 hw o n (fun _ : Nat => (0 : Int64)) (upd (fun _ : Nat => Value.null) na (.ref kA)) (up (fun _ : Nat => (0 : Int64)) na p3) na p5 T43.heap n0 z43 JA hna hn2) (hb hby at_104) (by rw [hml]; rfl) rfl rfl (by decide) (by decide) (by decide) (by decide) rfl ?_
            rintro v44 T44 L44 X44 ⟨rfl, N44, hz44, JH⟩
            have z44 : n0 ≤ T44.heap.size := Nat.le_trans z43 hz44
            have gA : (upd (fun _ : Nat => Value.null) na (.ref kA)) na = .ref kA := upd_same _ _ _
            have xA : (up (fun _ : Nat => (0 : Int64)) na p3) na = p3 := up_same _ _ _
            have fA : (up (fun _ : Nat => (0 : Int64)) na ((fun _ : Nat => (0 : Int64)) na + p5)) na = p5 := by rw [up_same]; exact Int64.zero_add p5
            refine W.aload X44 hx 109 (hb hby at_107) rfl rfl rfl ?_
            refine W.iload X44 hx 111 (hb hby at_109) rfl rfl ?_
            refine W.callV X44 hx hZ 114 0 o [(.int (Int32.ofNat na))] hown (hw _ (List.mem_of_getElem? (i := 160) rfl)) (hw _ (List.mem_of_getElem? (i := 161) rfl)) (hw _ (List.mem_of_getElem? (i := 163) rfl)) (hw _ (List.mem_of_getElem? (i := 162) rfl)) (hw _ (List.mem_of_getElem? (i := 2) rfl)) (hw _ (List.mem_of_getElem? (i := 164) rfl)) (by decide) pd_10 rfl rfl JH.exa (rmT l Z a0 hw n0 o n (up (fun _ : Nat => (0 : Int64)) na ((fun _ : Nat => (0 : Int64)) na + p5)) (upd (fun _ : Nat => Value.null) na (.ref kA)) (up (fun _ : Nat => (0 : Int64)) na p3) na (1 : Int32) T44.heap JH hna hn2 (Or.inr ⟨⟨kA, gA⟩, rfl⟩)) (hb hby at_111) (by rw [hml]; rfl) rfl rfl (by decide) (by decide) (by decide) (by decide) rfl ?_
            rintro v45 T45 L45 X45 ⟨rfl, e45, rfl⟩
            refine W.iload X45 hx 116 (hb hby at_114) rfl rfl ?_
            refine W.icmpNe X45 hx 145 119 (hb hby at_116) (by decide) (by decide) rfl (fun q => ?_) (fun q => ?_)
            · exact absurd rfl q
            · skip
              refine W.aload X45 hx 121 (hb hby at_119) rfl rfl rfl ?_
              refine W.iload X45 hx 123 (hb hby at_121) rfl rfl ?_
              refine W.callV X45 hx hZ 126 0 o [(.int (Int32.ofNat na))] hown (hw _ (List.mem_of_getElem? (i := 165) rfl)) (hw _ (List.mem_of_getElem? (i := 166) rfl)) (hw _ (List.mem_of_getElem? (i := 168) rfl)) (hw _ (List.mem_of_getElem? (i := 167) rfl)) (hw _ (List.mem_of_getElem? (i := 2) rfl)) (hw _ (List.mem_of_getElem? (i := 169) rfl)) (by decide) pd_11 rfl e45 JH.exa (rmL l Z a0 hw n0 o n (up (fun _ : Nat => (0 : Int64)) na ((fun _ : Nat => (0 : Int64)) na + p5)) (upd (fun _ : Nat => Value.null) na (.ref kA)) (up (fun _ : Nat => (0 : Int64)) na p3) na p3 T44.heap JH hna hn2 (Or.inr ⟨⟨kA, gA⟩, xA⟩)) (hb hby at_123) (by rw [hml]; rfl) rfl rfl (by decide) (by decide) (by decide) (by decide) rfl ?_
              rintro v46 T46 L46 X46 ⟨rfl, e46, rfl⟩
              refine W.iload X46 hx 128 (hb hby at_126) rfl rfl ?_
              refine W.ifEq X46 hx 135 131 (hb hby at_128) (by decide) (by decide) rfl (fun q => ?_) (fun q => ?_)
              · exact absurd q (by decide)
              · skip
                refine W.lloadN X46 hx 132 (hb hby at_131) rfl rfl ?_
                refine W.goto X46 hx 137 (hb hby at_132) (by decide) (by decide) ?_
                refine W.lcmp X46 hx 138 (hb hby at_137) rfl ?_
                refine W.lifNe X46 hx 145 141 (hb hby at_138) (by decide) (by decide) rfl (fun q => ?_) (fun q => ?_)
                · exact absurd rfl q
                · skip
                  refine W.iconst X46 hx 142 (1 : Int32) (hb hby at_141) rfl rfl ?_
                  refine W.goto X46 hx 146 (hb hby at_142) (by decide) (by decide) ?_
                  refine W.istore X46 hx 148 #[.val (.int p1), .val (.int p2), .val (.long p3), .second, .val (.long p4), .second, .val (.long p5), .second, .val (.int p6), .val (.int (Int32.ofNat na)), .val (.int (Int32.ofNat nb)), .val (.int (1 : Int32)), .val (.int (0 : Int32)), .val (.ref o), .val (.int (1 : Int32)), .unset, .unset] (hb hby at_146) rfl rfl ?_
                  refine W.aload X46 hx 150 (hb hby at_148) rfl rfl rfl ?_
                  refine W.iload X46 hx 152 (hb hby at_150) rfl rfl ?_
                  refine W.callV X46 hx hZ 155 0 o [(.int (Int32.ofNat na))] hown (hw _ (List.mem_of_getElem? (i := 175) rfl)) (hw _ (List.mem_of_getElem? (i := 176) rfl)) (hw _ (List.mem_of_getElem? (i := 178) rfl)) (hw _ (List.mem_of_getElem? (i := 177) rfl)) (hw _ (List.mem_of_getElem? (i := 2) rfl)) (hw _ (List.mem_of_getElem? (i := 179) rfl)) (by decide) pd_2 rfl e46 JH.exa (rmR l Z a0 hw o n (up (fun _ : Nat => (0 : Int64)) na ((fun _ : Nat => (0 : Int64)) na + p5)) (upd (fun _ : Nat => Value.null) na (.ref kA)) (up (fun _ : Nat => (0 : Int64)) na p3) na T44.heap n0 z44 JH hna hn2) (hb hby at_152) (by rw [hml]; rfl) rfl rfl (by decide) (by decide) (by decide) (by decide) rfl ?_
                  rintro v47 T47 L47 X47 ⟨rfl, N47, hz47, JR⟩
                  have z47 : n0 ≤ T47.heap.size := Nat.le_trans z44 hz47
                  refine W.aload X47 hx 157 (hb hby at_155) rfl rfl rfl ?_
                  refine W.iload X47 hx 159 (hb hby at_157) rfl rfl ?_
                  refine W.callV X47 hx hZ 162 0 o [(.int (Int32.ofNat na))] hown (hw _ (List.mem_of_getElem? (i := 160) rfl)) (hw _ (List.mem_of_getElem? (i := 161) rfl)) (hw _ (List.mem_of_getElem? (i := 163) rfl)) (hw _ (List.mem_of_getElem? (i := 162) rfl)) (hw _ (List.mem_of_getElem? (i := 2) rfl)) (hw _ (List.mem_of_getElem? (i := 164) rfl)) (by decide) pd_10 rfl rfl JR.exa (rmT l Z a0 hw n0 o n (up (fun _ : Nat => (0 : Int64)) na ((fun _ : Nat => (0 : Int64)) na + p5)) (upd (upd (fun _ : Nat => Value.null) na (.ref kA)) na .null) (up (fun _ : Nat => (0 : Int64)) na p3) na (0 : Int32) T47.heap JR hna hn2 (Or.inl ⟨upd_same _ _ _, rfl⟩)) (hb hby at_159) (by rw [hml]; rfl) rfl rfl (by decide) (by decide) (by decide) (by decide) rfl ?_
                  rintro v48 T48 L48 X48 ⟨rfl, e48, rfl⟩
                  refine W.ifNe X48 hx 182 165 (hb hby at_162) (by decide) (by decide) rfl (fun q => ?_) (fun q => ?_)
                  · exact absurd rfl q
                  · skip
                    refine W.aload X48 hx 167 (hb hby at_165) rfl rfl rfl ?_
                    refine W.iload X48 hx 169 (hb hby at_167) rfl rfl ?_
                    refine W.callV X48 hx hZ 172 0 o [(.int (Int32.ofNat na))] hown (hw _ (List.mem_of_getElem? (i := 165) rfl)) (hw _ (List.mem_of_getElem? (i := 166) rfl)) (hw _ (List.mem_of_getElem? (i := 168) rfl)) (hw _ (List.mem_of_getElem? (i := 167) rfl)) (hw _ (List.mem_of_getElem? (i := 2) rfl)) (hw _ (List.mem_of_getElem? (i := 169) rfl)) (by decide) pd_11 rfl e48 JR.exa (rmL l Z a0 hw n0 o n (up (fun _ : Nat => (0 : Int64)) na ((fun _ : Nat => (0 : Int64)) na + p5)) (upd (upd (fun _ : Nat => Value.null) na (.ref kA)) na .null) (up (fun _ : Nat => (0 : Int64)) na p3) na p5 T47.heap JR hna hn2 (Or.inl ⟨upd_same _ _ _, fA⟩)) (hb hby at_169) (by rw [hml]; rfl) rfl rfl (by decide) (by decide) (by decide) (by decide) rfl ?_
                    rintro v49 T49 L49 X49 ⟨rfl, e49, rfl⟩
                    refine W.lload X49 hx 174 (hb hby at_172) rfl rfl ?_
                    refine W.lcmp X49 hx 175 (hb hby at_174) rfl ?_
                    refine W.lifNe X49 hx 182 178 (hb hby at_175) (by decide) (by decide) rfl (fun q => ?_) (fun q => ?_)
                    · exact absurd rfl q
                    · skip
                      refine W.iconst X49 hx 179 (1 : Int32) (hb hby at_178) rfl rfl ?_
                      refine W.goto X49 hx 183 (hb hby at_179) (by decide) (by decide) ?_
                      refine W.istore X49 hx 185 #[.val (.int p1), .val (.int p2), .val (.long p3), .second, .val (.long p4), .second, .val (.long p5), .second, .val (.int p6), .val (.int (Int32.ofNat na)), .val (.int (Int32.ofNat nb)), .val (.int (1 : Int32)), .val (.int (0 : Int32)), .val (.ref o), .val (.int (1 : Int32)), .val (.int (1 : Int32)), .unset] (hb hby at_183) rfl rfl ?_
                      refine W.iload X49 hx 187 (hb hby at_185) rfl rfl ?_
                      refine W.iload X49 hx 189 (hb hby at_187) rfl rfl ?_
                      refine W.icmpEq X49 hx 226 192 (hb hby at_189) (by decide) (by decide) rfl (fun q => ?_) (fun q => ?_)
                      · skip
                        refine W.iconst X49 hx 227 (1 : Int32) (hb hby at_226) rfl rfl ?_
                        refine W.goto X49 hx 231 (hb hby at_227) (by decide) (by decide) ?_
                        refine W.istore X49 hx 233 #[.val (.int p1), .val (.int p2), .val (.long p3), .second, .val (.long p4), .second, .val (.long p5), .second, .val (.int p6), .val (.int (Int32.ofNat na)), .val (.int (Int32.ofNat nb)), .val (.int (1 : Int32)), .val (.int (0 : Int32)), .val (.ref o), .val (.int (1 : Int32)), .val (.int (1 : Int32)), .val (.int (1 : Int32))] (hb hby at_231) rfl rfl ?_
                        refine W.iload X49 hx 235 (hb hby at_233) rfl rfl ?_
                        refine W.ifEq X49 hx 252 238 (hb hby at_235) (by decide) (by decide) rfl (fun q => ?_) (fun q => ?_)
                        · exact absurd q (by decide)
                        · skip
                          refine W.iload X49 hx 240 (hb hby at_238) rfl rfl ?_
                          refine W.ifEq X49 hx 252 243 (hb hby at_240) (by decide) (by decide) rfl (fun q => ?_) (fun q => ?_)
                          · exact absurd q (by decide)
                          · skip
                            refine W.iload X49 hx 245 (hb hby at_243) rfl rfl ?_
                            refine W.ifEq X49 hx 252 248 (hb hby at_245) (by decide) (by decide) rfl (fun q => ?_) (fun q => ?_)
                            · exact absurd q (by decide)
                            · skip
                              refine W.iconst X49 hx 249 (1 : Int32) (hb hby at_248) rfl rfl ?_
                              refine W.goto X49 hx 253 (hb hby at_249) (by decide) (by decide) ?_
                              refine W.nret X49 hx hlk (t := .boolean) hret (by simp) (hb hby at_253) (by decide) (by decide) ?_
                              exact ⟨rfl, (Fr.app (Fr.app (Fr.app (Fr.app (Fr.app (Fr.app (Fr.app (Fr.app (Fr.nil _) N42) N43) N44) (Fr.nil _)) (Fr.nil _)) N47) (Fr.nil _)) (Fr.nil _))⟩
                      · exact absurd (by rw [hab]) q
          · exact absurd rfl q
      · skip
        have hab : nb ≠ na := fun z => q (by rw [z])
        refine W.iconst X0 hx 41 (1 : Int32) (hb hby at_40) rfl rfl ?_
        refine W.goto X0 hx 45 (hb hby at_41) (by decide) (by decide) ?_
        refine W.istore X0 hx 47 #[.val (.int p1), .val (.int p2), .val (.long p3), .second, .val (.long p4), .second, .val (.long p5), .second, .val (.int p6), .val (.int (Int32.ofNat na)), .val (.int (Int32.ofNat nb)), .val (.int (1 : Int32)), .val (.int (1 : Int32)), .unset, .unset, .unset, .unset] (hb hby at_45) rfl rfl ?_
        refine W.newO X0 hx hZ 50 hown (hw _ (List.mem_of_getElem? (i := 0) rfl)) (hw _ (List.mem_of_getElem? (i := 1) rfl)) (hw _ (List.mem_of_getElem? (i := 2) rfl)) e0 (hb hby at_47) (by decide) (by decide) rfl ?_
        intro T50 h50 o q50 X50 e50 E50 E D
        have ge_o : n0 ≤ o := by have := Z0; omega
        have SD := SD.ext E50
        have SZ := SZ.ext E50
        have z50 : n0 ≤ h50.size := Nat.le_trans Z0 E50.1
        have i_me := D (Or.inr (hw _ (List.mem_of_getElem? (i := 64) rfl))) (ty := (.object "com/example/margrave/margrave/engine/Holdings$Numbering")) (by decide)
        have i_cl := D (Or.inr (hw _ (List.mem_of_getElem? (i := 66) rfl))) (ty := (.object "com/example/margrave/margrave/engine/Holdings$Numbering")) (by decide)
        have i_co := D (Or.inr (hw _ (List.mem_of_getElem? (i := 68) rfl))) (ty := (.object "com/example/margrave/margrave/engine/Holdings$Numbering")) (by decide)
        have i_io := D (Or.inl (hw _ (List.mem_of_getElem? (i := 70) rfl))) (ty := .boolean) (by decide)
        have i_de := D (Or.inr (hw _ (List.mem_of_getElem? (i := 72) rfl))) (ty := .boolean) (by decide)
        have i_ha := D (Or.inl (hw _ (List.mem_of_getElem? (i := 76) rfl))) (ty := (.object "java/util/function/LongBinaryOperator")) (by decide)
        have f_m := D (Or.inl (hw _ (List.mem_of_getElem? (i := 87) rfl))) (ty := (.array .int)) (by decide)
        have f_cl := D (Or.inl (hw _ (List.mem_of_getElem? (i := 89) rfl))) (ty := (.array .int)) (by decide)
        have f_co := D (Or.inl (hw _ (List.mem_of_getElem? (i := 91) rfl))) (ty := (.array .int)) (by decide)
        have f_si := D (Or.inl (hw _ (List.mem_of_getElem? (i := 94) rfl))) (ty := (.array .byte)) (by decide)
        have f_pu := D (Or.inl (hw _ (List.mem_of_getElem? (i := 96) rfl))) (ty := (.array .byte)) (by decide)
        have f_be := D (Or.inl (hw _ (List.mem_of_getElem? (i := 99) rfl))) (ty := (.array .long)) (by decide)
        have f_en := D (Or.inl (hw _ (List.mem_of_getElem? (i := 101) rfl))) (ty := (.array (.object "com/example/margrave/margrave/engine/Holding"))) (by decide)
        have f_fe := D (Or.inl (hw _ (List.mem_of_getElem? (i := 103) rfl))) (ty := (.array .long)) (by decide)
        have f_fp := D (Or.inl (hw _ (List.mem_of_getElem? (i := 105) rfl))) (ty := (.array (.object "java/math/BigDecimal"))) (by decide)
        have f_ix := D (Or.inl (hw _ (List.mem_of_getElem? (i := 107) rfl))) (ty := (.object "com/example/margrave/margrave/engine/HashIndex")) (by decide)
        have f_g := D (Or.inl (hw _ (List.mem_of_getElem? (i := 74) rfl))) (ty := (.object "com/example/margrave/margrave/engine/LotGroups")) (by decide)
        refine W.dup X50 hx 51 (hb hby at_50) rfl rfl ?_
        refine W.iload X50 hx 53 (hb hby at_51) rfl rfl ?_
        refine W.iconst X50 hx 54 (2 : Int32) (hb hby at_53) rfl rfl ?_
        refine W.iushr X50 hx 55 (hb hby at_54) rfl ?_
        refine W.bipush X50 hx 57 (31 : Int32) (hb hby at_55) rfl rfl ?_
        obtain ⟨ex, hex, eex⟩ := own_and ((p6).toUInt32 >>> ((2 : Int32) &&& 31).toUInt32).toInt32 31 (by decide)
        have hex : ex ≤ 31 := by have e : (31 : Int32).toInt = 31 := rfl; omega
        have eex := own_ieq eex
        refine W.iand X50 hx 58 (hb hby at_57) rfl ?_
        rw [eex]
        obtain ⟨n, hn⟩ : ∃ z : Nat, z = if ex < 16 then 16 else ex := ⟨_, rfl⟩
        have hn2 : 16 ≤ n ∧ n ≤ 31 := by split at hn <;> omega
        have EO := E
        refine W.callI X50 hx hZ 61 1 o [(.int (Int32.ofNat ex))] rfl hown (hw _ (List.mem_of_getElem? (i := 3) rfl)) (hw _ (List.mem_of_getElem? (i := 4) rfl)) (hw _ (List.mem_of_getElem? (i := 2) rfl)) (hw _ (List.mem_of_getElem? (i := 5) rfl)) (by decide) pd_2 rfl e50 (rmI1 l Z a0 hw o dv ex n h50 n0 z50 E i_me i_cl i_co i_io i_de i_ha f_m f_cl f_co f_si f_pu f_be f_en f_fe f_fp f_ix f_g SD hn hex ge_o) (hb hby at_58) (by rw [hml]; rfl) rfl rfl (by decide) (by decide) (by decide) (by decide) rfl ?_
        rintro v51 T51 L51 X51 ⟨rfl, N51, K51, mb, bf, O51⟩
        have SZ := Sta.keepE SZ K51 EO
        have z51 : n0 ≤ T51.heap.size := Nat.le_trans z50 K51.1
        have J0 : HJ Z T51.heap n0 o n (fun _ : Nat => (0 : Int64)) (fun _ : Nat => Value.null) (fun _ : Nat => (0 : Int64)) := ⟨mb, bf, .null, O51, Or.inl ⟨rfl, fun _ => rfl⟩, fun _ _ _ => Or.inl rfl⟩
        refine W.astore X51 hx 63 #[.val (.int p1), .val (.int p2), .val (.long p3), .second, .val (.long p4), .second, .val (.long p5), .second, .val (.int p6), .val (.int (Int32.ofNat na)), .val (.int (Int32.ofNat nb)), .val (.int (1 : Int32)), .val (.int (1 : Int32)), .val (.ref o), .unset, .unset, .unset] (hb hby at_61) rfl rfl rfl ?_
        refine W.iload X51 hx 65 (hb hby at_63) rfl rfl ?_
        refine W.ifEq X51 hx 79 68 (hb hby at_65) (by decide) (by decide) rfl (fun q => ?_) (fun q => ?_)
        · exact absurd q (by decide)
        · skip
          refine W.aload X51 hx 70 (hb hby at_68) rfl rfl rfl ?_
          refine W.iload X51 hx 72 (hb hby at_70) rfl rfl ?_
          refine W.anull X51 hx 73 (hb hby at_72) rfl ?_
          refine W.anull X51 hx 74 (hb hby at_73) rfl ?_
          refine W.lloadN X51 hx 75 (hb hby at_74) rfl rfl ?_
          refine W.iconst X51 hx 76 (0 : Int32) (hb hby at_75) rfl rfl ?_
          refine W.callV X51 hx hZ 79 0 o [(.int (Int32.ofNat na)), .null, .null, (.long p3), (.int (0 : Int32))] hown (hw _ (List.mem_of_getElem? (i := 108) rfl)) (hw _ (List.mem_of_getElem? (i := 109) rfl)) (hw _ (List.mem_of_getElem? (i := 111) rfl)) (hw _ (List.mem_of_getElem? (i := 110) rfl)) (hw _ (List.mem_of_getElem? (i := 2) rfl)) (hw _ (List.mem_of_getElem? (i := 112) rfl)) (by decide) pd_12 rfl rfl J0.exa (rmO l Z a0 hw o n (fun _ : Nat => (0 : Int64)) (fun _ : Nat => Value.null) (fun _ : Nat => (0 : Int64)) na p3 (0 : Int32) bz T51.heap n0 z51 J0 hna hn2 SZ rfl rfl) (hb hby at_76) (by rw [hml]; rfl) rfl rfl (by decide) (by decide) (by decide) (by decide) rfl ?_
          rintro v52 T52 L52 X52 ⟨rfl, N52, hz52, SZ, kA, JA⟩
          have z52 : n0 ≤ T52.heap.size := Nat.le_trans z51 hz52
          refine W.iload X52 hx 81 (hb hby at_79) rfl rfl ?_
          refine W.ifEq X52 hx 96 84 (hb hby at_81) (by decide) (by decide) rfl (fun q => ?_) (fun q => ?_)
          · exact absurd q (by decide)
          · skip
            refine W.aload X52 hx 86 (hb hby at_84) rfl rfl rfl ?_
            refine W.iload X52 hx 88 (hb hby at_86) rfl rfl ?_
            refine W.anull X52 hx 89 (hb hby at_88) rfl ?_
            refine W.anull X52 hx 90 (hb hby at_89) rfl ?_
            refine W.lload X52 hx 92 (hb hby at_90) rfl rfl ?_
            refine W.iconst X52 hx 93 (1 : Int32) (hb hby at_92) rfl rfl ?_
            refine W.callV X52 hx hZ 96 0 o [(.int (Int32.ofNat nb)), .null, .null, (.long p4), (.int (1 : Int32))] hown (hw _ (List.mem_of_getElem? (i := 108) rfl)) (hw _ (List.mem_of_getElem? (i := 109) rfl)) (hw _ (List.mem_of_getElem? (i := 111) rfl)) (hw _ (List.mem_of_getElem? (i := 110) rfl)) (hw _ (List.mem_of_getElem? (i := 2) rfl)) (hw _ (List.mem_of_getElem? (i := 112) rfl)) (by decide) pd_12 rfl rfl JA.exa (rmO l Z a0 hw o n (fun _ : Nat => (0 : Int64)) (upd (fun _ : Nat => Value.null) na (.ref kA)) (up (fun _ : Nat => (0 : Int64)) na p3) nb p4 (1 : Int32) bz T52.heap n0 z52 JA hnb hn2 SZ (upd_ne hab) rfl) (hb hby at_93) (by rw [hml]; rfl) rfl rfl (by decide) (by decide) (by decide) (by decide) rfl ?_
            rintro v53 T53 L53 X53 ⟨rfl, N53, hz53, SZ, kB, JB⟩
            have z53 : n0 ≤ T53.heap.size := Nat.le_trans z52 hz53
            refine W.aload X53 hx 98 (hb hby at_96) rfl rfl rfl ?_
            refine W.iload X53 hx 100 (hb hby at_98) rfl rfl ?_
            refine W.iconst X53 hx 101 (0 : Int32) (hb hby at_100) rfl rfl ?_
            refine W.anull X53 hx 102 (hb hby at_101) rfl ?_
            refine W.lload X53 hx 104 (hb hby at_102) rfl rfl ?_
            refine W.callV X53 hx hZ 107 0 o [(.int (Int32.ofNat na)), (.int (0 : Int32)), .null, (.long p5)] hown (hw _ (List.mem_of_getElem? (i := 155) rfl)) (hw _ (List.mem_of_getElem? (i := 156) rfl)) (hw _ (List.mem_of_getElem? (i := 158) rfl)) (hw _ (List.mem_of_getElem? (i := 157) rfl)) (hw _ (List.mem_of_getElem? (i := 2) rfl)) (hw _ (List.mem_of_getElem? (i := 159) rfl)) (by decide) pd_9 rfl rfl JB.exa (rmB l Z a0 hw o n (fun _ : Nat => (0 : Int64)) (upd (upd (fun _ : Nat => Value.null) na (.ref kA)) nb (.ref kB)) (up (up (fun _ : Nat => (0 : Int64)) na p3) nb p4) na p5 T53.heap n0 z53 JB hna hn2) (hb hby at_104) (by rw [hml]; rfl) rfl rfl (by decide) (by decide) (by decide) (by decide) rfl ?_
            rintro v54 T54 L54 X54 ⟨rfl, N54, hz54, JH⟩
            have z54 : n0 ≤ T54.heap.size := Nat.le_trans z53 hz54
            have gA : (upd (upd (fun _ : Nat => Value.null) na (.ref kA)) nb (.ref kB)) na = .ref kA := by rw [upd_ne (Ne.symm hab), upd_same]
            have xA : (up (up (fun _ : Nat => (0 : Int64)) na p3) nb p4) na = p3 := by rw [up_ne (Ne.symm hab), up_same]
            have fA : (up (fun _ : Nat => (0 : Int64)) na ((fun _ : Nat => (0 : Int64)) na + p5)) na = p5 := by rw [up_same]; exact Int64.zero_add p5
            have gB : (upd (upd (upd (fun _ : Nat => Value.null) na (.ref kA)) nb (.ref kB)) na .null) nb = .ref kB := by rw [upd_ne hab, upd_same]
            have xB : (up (up (fun _ : Nat => (0 : Int64)) na p3) nb p4) nb = p4 := up_same _ _ _
            refine W.aload X54 hx 109 (hb hby at_107) rfl rfl rfl ?_
            refine W.iload X54 hx 111 (hb hby at_109) rfl rfl ?_
            refine W.callV X54 hx hZ 114 0 o [(.int (Int32.ofNat na))] hown (hw _ (List.mem_of_getElem? (i := 160) rfl)) (hw _ (List.mem_of_getElem? (i := 161) rfl)) (hw _ (List.mem_of_getElem? (i := 163) rfl)) (hw _ (List.mem_of_getElem? (i := 162) rfl)) (hw _ (List.mem_of_getElem? (i := 2) rfl)) (hw _ (List.mem_of_getElem? (i := 164) rfl)) (by decide) pd_10 rfl rfl JH.exa (rmT l Z a0 hw n0 o n (up (fun _ : Nat => (0 : Int64)) na ((fun _ : Nat => (0 : Int64)) na + p5)) (upd (upd (fun _ : Nat => Value.null) na (.ref kA)) nb (.ref kB)) (up (up (fun _ : Nat => (0 : Int64)) na p3) nb p4) na (1 : Int32) T54.heap JH hna hn2 (Or.inr ⟨⟨kA, gA⟩, rfl⟩)) (hb hby at_111) (by rw [hml]; rfl) rfl rfl (by decide) (by decide) (by decide) (by decide) rfl ?_
            rintro v55 T55 L55 X55 ⟨rfl, e55, rfl⟩
            refine W.iload X55 hx 116 (hb hby at_114) rfl rfl ?_
            refine W.icmpNe X55 hx 145 119 (hb hby at_116) (by decide) (by decide) rfl (fun q => ?_) (fun q => ?_)
            · exact absurd rfl q
            · skip
              refine W.aload X55 hx 121 (hb hby at_119) rfl rfl rfl ?_
              refine W.iload X55 hx 123 (hb hby at_121) rfl rfl ?_
              refine W.callV X55 hx hZ 126 0 o [(.int (Int32.ofNat na))] hown (hw _ (List.mem_of_getElem? (i := 165) rfl)) (hw _ (List.mem_of_getElem? (i := 166) rfl)) (hw _ (List.mem_of_getElem? (i := 168) rfl)) (hw _ (List.mem_of_getElem? (i := 167) rfl)) (hw _ (List.mem_of_getElem? (i := 2) rfl)) (hw _ (List.mem_of_getElem? (i := 169) rfl)) (by decide) pd_11 rfl e55 JH.exa (rmL l Z a0 hw n0 o n (up (fun _ : Nat => (0 : Int64)) na ((fun _ : Nat => (0 : Int64)) na + p5)) (upd (upd (fun _ : Nat => Value.null) na (.ref kA)) nb (.ref kB)) (up (up (fun _ : Nat => (0 : Int64)) na p3) nb p4) na p3 T54.heap JH hna hn2 (Or.inr ⟨⟨kA, gA⟩, xA⟩)) (hb hby at_123) (by rw [hml]; rfl) rfl rfl (by decide) (by decide) (by decide) (by decide) rfl ?_
              rintro v56 T56 L56 X56 ⟨rfl, e56, rfl⟩
              refine W.iload X56 hx 128 (hb hby at_126) rfl rfl ?_
              refine W.ifEq X56 hx 135 131 (hb hby at_128) (by decide) (by decide) rfl (fun q => ?_) (fun q => ?_)
              · exact absurd q (by decide)
              · skip
                refine W.lloadN X56 hx 132 (hb hby at_131) rfl rfl ?_
                refine W.goto X56 hx 137 (hb hby at_132) (by decide) (by decide) ?_
                refine W.lcmp X56 hx 138 (hb hby at_137) rfl ?_
                refine W.lifNe X56 hx 145 141 (hb hby at_138) (by decide) (by decide) rfl (fun q => ?_) (fun q => ?_)
                · exact absurd rfl q
                · skip
                  refine W.iconst X56 hx 142 (1 : Int32) (hb hby at_141) rfl rfl ?_
                  refine W.goto X56 hx 146 (hb hby at_142) (by decide) (by decide) ?_
                  refine W.istore X56 hx 148 #[.val (.int p1), .val (.int p2), .val (.long p3), .second, .val (.long p4), .second, .val (.long p5), .second, .val (.int p6), .val (.int (Int32.ofNat na)), .val (.int (Int32.ofNat nb)), .val (.int (1 : Int32)), .val (.int (1 : Int32)), .val (.ref o), .val (.int (1 : Int32)), .unset, .unset] (hb hby at_146) rfl rfl ?_
                  refine W.aload X56 hx 150 (hb hby at_148) rfl rfl rfl ?_
                  refine W.iload X56 hx 152 (hb hby at_150) rfl rfl ?_
                  refine W.callV X56 hx hZ 155 0 o [(.int (Int32.ofNat na))] hown (hw _ (List.mem_of_getElem? (i := 175) rfl)) (hw _ (List.mem_of_getElem? (i := 176) rfl)) (hw _ (List.mem_of_getElem? (i := 178) rfl)) (hw _ (List.mem_of_getElem? (i := 177) rfl)) (hw _ (List.mem_of_getElem? (i := 2) rfl)) (hw _ (List.mem_of_getElem? (i := 179) rfl)) (by decide) pd_2 rfl e56 JH.exa (rmR l Z a0 hw o n (up (fun _ : Nat => (0 : Int64)) na ((fun _ : Nat => (0 : Int64)) na + p5)) (upd (upd (fun _ : Nat => Value.null) na (.ref kA)) nb (.ref kB)) (up (up (fun _ : Nat => (0 : Int64)) na p3) nb p4) na T54.heap n0 z54 JH hna hn2) (hb hby at_152) (by rw [hml]; rfl) rfl rfl (by decide) (by decide) (by decide) (by decide) rfl ?_
                  rintro v57 T57 L57 X57 ⟨rfl, N57, hz57, JR⟩
                  have z57 : n0 ≤ T57.heap.size := Nat.le_trans z54 hz57
                  refine W.aload X57 hx 157 (hb hby at_155) rfl rfl rfl ?_
                  refine W.iload X57 hx 159 (hb hby at_157) rfl rfl ?_
                  refine W.callV X57 hx hZ 162 0 o [(.int (Int32.ofNat na))] hown (hw _ (List.mem_of_getElem? (i := 160) rfl)) (hw _ (List.mem_of_getElem? (i := 161) rfl)) (hw _ (List.mem_of_getElem? (i := 163) rfl)) (hw _ (List.mem_of_getElem? (i := 162) rfl)) (hw _ (List.mem_of_getElem? (i := 2) rfl)) (hw _ (List.mem_of_getElem? (i := 164) rfl)) (by decide) pd_10 rfl rfl JR.exa (rmT l Z a0 hw n0 o n (up (fun _ : Nat => (0 : Int64)) na ((fun _ : Nat => (0 : Int64)) na + p5)) (upd (upd (upd (fun _ : Nat => Value.null) na (.ref kA)) nb (.ref kB)) na .null) (up (up (fun _ : Nat => (0 : Int64)) na p3) nb p4) na (0 : Int32) T57.heap JR hna hn2 (Or.inl ⟨upd_same _ _ _, rfl⟩)) (hb hby at_159) (by rw [hml]; rfl) rfl rfl (by decide) (by decide) (by decide) (by decide) rfl ?_
                  rintro v58 T58 L58 X58 ⟨rfl, e58, rfl⟩
                  refine W.ifNe X58 hx 182 165 (hb hby at_162) (by decide) (by decide) rfl (fun q => ?_) (fun q => ?_)
                  · exact absurd rfl q
                  · skip
                    refine W.aload X58 hx 167 (hb hby at_165) rfl rfl rfl ?_
                    refine W.iload X58 hx 169 (hb hby at_167) rfl rfl ?_
                    refine W.callV X58 hx hZ 172 0 o [(.int (Int32.ofNat na))] hown (hw _ (List.mem_of_getElem? (i := 165) rfl)) (hw _ (List.mem_of_getElem? (i := 166) rfl)) (hw _ (List.mem_of_getElem? (i := 168) rfl)) (hw _ (List.mem_of_getElem? (i := 167) rfl)) (hw _ (List.mem_of_getElem? (i := 2) rfl)) (hw _ (List.mem_of_getElem? (i := 169) rfl)) (by decide) pd_11 rfl e58 JR.exa (rmL l Z a0 hw n0 o n (up (fun _ : Nat => (0 : Int64)) na ((fun _ : Nat => (0 : Int64)) na + p5)) (upd (upd (upd (fun _ : Nat => Value.null) na (.ref kA)) nb (.ref kB)) na .null) (up (up (fun _ : Nat => (0 : Int64)) na p3) nb p4) na p5 T57.heap JR hna hn2 (Or.inl ⟨upd_same _ _ _, fA⟩)) (hb hby at_169) (by rw [hml]; rfl) rfl rfl (by decide) (by decide) (by decide) (by decide) rfl ?_
                    rintro v59 T59 L59 X59 ⟨rfl, e59, rfl⟩
                    refine W.lload X59 hx 174 (hb hby at_172) rfl rfl ?_
                    refine W.lcmp X59 hx 175 (hb hby at_174) rfl ?_
                    refine W.lifNe X59 hx 182 178 (hb hby at_175) (by decide) (by decide) rfl (fun q => ?_) (fun q => ?_)
                    · exact absurd rfl q
                    · skip
                      refine W.iconst X59 hx 179 (1 : Int32) (hb hby at_178) rfl rfl ?_
                      refine W.goto X59 hx 183 (hb hby at_179) (by decide) (by decide) ?_
                      refine W.istore X59 hx 185 #[.val (.int p1), .val (.int p2), .val (.long p3), .second, .val (.long p4), .second, .val (.long p5), .second, .val (.int p6), .val (.int (Int32.ofNat na)), .val (.int (Int32.ofNat nb)), .val (.int (1 : Int32)), .val (.int (1 : Int32)), .val (.ref o), .val (.int (1 : Int32)), .val (.int (1 : Int32)), .unset] (hb hby at_183) rfl rfl ?_
                      refine W.iload X59 hx 187 (hb hby at_185) rfl rfl ?_
                      refine W.iload X59 hx 189 (hb hby at_187) rfl rfl ?_
                      refine W.icmpEq X59 hx 226 192 (hb hby at_189) (by decide) (by decide) rfl (fun q => ?_) (fun q => ?_)
                      · exact absurd (own_eq (by omega) (by omega) q) hab
                      · skip
                        refine W.aload X59 hx 194 (hb hby at_192) rfl rfl rfl ?_
                        refine W.iload X59 hx 196 (hb hby at_194) rfl rfl ?_
                        refine W.callV X59 hx hZ 199 0 o [(.int (Int32.ofNat nb))] hown (hw _ (List.mem_of_getElem? (i := 160) rfl)) (hw _ (List.mem_of_getElem? (i := 161) rfl)) (hw _ (List.mem_of_getElem? (i := 163) rfl)) (hw _ (List.mem_of_getElem? (i := 162) rfl)) (hw _ (List.mem_of_getElem? (i := 2) rfl)) (hw _ (List.mem_of_getElem? (i := 164) rfl)) (by decide) pd_10 rfl e59 JR.exa (rmT l Z a0 hw n0 o n (up (fun _ : Nat => (0 : Int64)) na ((fun _ : Nat => (0 : Int64)) na + p5)) (upd (upd (upd (fun _ : Nat => Value.null) na (.ref kA)) nb (.ref kB)) na .null) (up (up (fun _ : Nat => (0 : Int64)) na p3) nb p4) nb (1 : Int32) T57.heap JR hnb hn2 (Or.inr ⟨⟨kB, gB⟩, rfl⟩)) (hb hby at_196) (by rw [hml]; rfl) rfl rfl (by decide) (by decide) (by decide) (by decide) rfl ?_
                        rintro v60 T60 L60 X60 ⟨rfl, e60, rfl⟩
                        refine W.iload X60 hx 201 (hb hby at_199) rfl rfl ?_
                        refine W.icmpNe X60 hx 230 204 (hb hby at_201) (by decide) (by decide) rfl (fun q => ?_) (fun q => ?_)
                        · exact absurd rfl q
                        · skip
                          refine W.aload X60 hx 206 (hb hby at_204) rfl rfl rfl ?_
                          refine W.iload X60 hx 208 (hb hby at_206) rfl rfl ?_
                          refine W.callV X60 hx hZ 211 0 o [(.int (Int32.ofNat nb))] hown (hw _ (List.mem_of_getElem? (i := 165) rfl)) (hw _ (List.mem_of_getElem? (i := 166) rfl)) (hw _ (List.mem_of_getElem? (i := 168) rfl)) (hw _ (List.mem_of_getElem? (i := 167) rfl)) (hw _ (List.mem_of_getElem? (i := 2) rfl)) (hw _ (List.mem_of_getElem? (i := 169) rfl)) (by decide) pd_11 rfl e60 JR.exa (rmL l Z a0 hw n0 o n (up (fun _ : Nat => (0 : Int64)) na ((fun _ : Nat => (0 : Int64)) na + p5)) (upd (upd (upd (fun _ : Nat => Value.null) na (.ref kA)) nb (.ref kB)) na .null) (up (up (fun _ : Nat => (0 : Int64)) na p3) nb p4) nb p4 T57.heap JR hnb hn2 (Or.inr ⟨⟨kB, gB⟩, xB⟩)) (hb hby at_208) (by rw [hml]; rfl) rfl rfl (by decide) (by decide) (by decide) (by decide) rfl ?_
                          rintro v61 T61 L61 X61 ⟨rfl, e61, rfl⟩
                          refine W.iload X61 hx 213 (hb hby at_211) rfl rfl ?_
                          refine W.ifEq X61 hx 221 216 (hb hby at_213) (by decide) (by decide) rfl (fun q => ?_) (fun q => ?_)
                          · exact absurd q (by decide)
                          · skip
                            refine W.lload X61 hx 218 (hb hby at_216) rfl rfl ?_
                            refine W.goto X61 hx 222 (hb hby at_218) (by decide) (by decide) ?_
                            refine W.lcmp X61 hx 223 (hb hby at_222) rfl ?_
                            refine W.lifNe X61 hx 230 226 (hb hby at_223) (by decide) (by decide) rfl (fun q => ?_) (fun q => ?_)
                            · exact absurd rfl q
                            · skip
                              refine W.iconst X61 hx 227 (1 : Int32) (hb hby at_226) rfl rfl ?_
                              refine W.goto X61 hx 231 (hb hby at_227) (by decide) (by decide) ?_
                              refine W.istore X61 hx 233 #[.val (.int p1), .val (.int p2), .val (.long p3), .second, .val (.long p4), .second, .val (.long p5), .second, .val (.int p6), .val (.int (Int32.ofNat na)), .val (.int (Int32.ofNat nb)), .val (.int (1 : Int32)), .val (.int (1 : Int32)), .val (.ref o), .val (.int (1 : Int32)), .val (.int (1 : Int32)), .val (.int (1 : Int32))] (hb hby at_231) rfl rfl ?_
                              refine W.iload X61 hx 235 (hb hby at_233) rfl rfl ?_
                              refine W.ifEq X61 hx 252 238 (hb hby at_235) (by decide) (by decide) rfl (fun q => ?_) (fun q => ?_)
                              · exact absurd q (by decide)
                              · skip
                                refine W.iload X61 hx 240 (hb hby at_238) rfl rfl ?_
                                refine W.ifEq X61 hx 252 243 (hb hby at_240) (by decide) (by decide) rfl (fun q => ?_) (fun q => ?_)
                                · exact absurd q (by decide)
                                · skip
                                  refine W.iload X61 hx 245 (hb hby at_243) rfl rfl ?_
                                  refine W.ifEq X61 hx 252 248 (hb hby at_245) (by decide) (by decide) rfl (fun q => ?_) (fun q => ?_)
                                  · exact absurd q (by decide)
                                  · skip
                                    refine W.iconst X61 hx 249 (1 : Int32) (hb hby at_248) rfl rfl ?_
                                    refine W.goto X61 hx 253 (hb hby at_249) (by decide) (by decide) ?_
                                    refine W.nret X61 hx hlk (t := .boolean) hret (by simp) (hb hby at_253) (by decide) (by decide) ?_
                                    exact ⟨rfl, (Fr.app (Fr.app (Fr.app (Fr.app (Fr.app (Fr.app (Fr.app (Fr.app (Fr.app (Fr.app (Fr.app (Fr.nil _) N51) N52) N53) N54) (Fr.nil _)) (Fr.nil _)) N57) (Fr.nil _)) (Fr.nil _)) (Fr.nil _)) (Fr.nil _))⟩
set_option maxRecDepth 65536 in
set_option maxHeartbeats 40000000 in
theorem comes_1 {Post : Tables → Env → Array Value → State → Outcome → State → Prop} (hpost : ∀ tb e args s v u, (limb_1_1.after args s (.returned v) u = true ∧ limb_1_2.after args s (.returned v) u = true ∧ True) → FrameEnd s (.returned v) u (Jvm.fieldLocs frame_1_writes args s ++ Jvm.arrayLocs frame_1_arrays args s ++ Jvm.staticLocs frame_1_statics s) 56 704 → Post tb e args s (.returned v) u) :
    ArmFor flags0 classFile x code maxLocals ret World_1 tables_1 room_1 Calls_1 rest_1 Pre_1 Post := by
  intro l hfl _ _ p e ha hc hk s m args below hf hA hF happ hP
  obtain ⟨hcalls, hrest, hpre⟩ := hP
  obtain ⟨-, -, -, hnamed, -, -, -, hat⟩ := (Spec.applies_iff hf).mp happ
  obtain ⟨hg, hn⟩ := and_e (Cond.before_iff.mp (show (Jvm.Cond.and given_1 narrow_1).before args s = true from hpre))
  obtain ⟨hcount, hg0⟩ := and_e hg
  obtain ⟨k0, hg1⟩ := and_e hg0
  obtain ⟨k1, hg2⟩ := and_e hg1
  obtain ⟨k2, hg3⟩ := and_e hg2
  obtain ⟨k3, hg4⟩ := and_e hg3
  obtain ⟨k4, hg5⟩ := and_e hg4
  have k5 := hg5
  obtain ⟨w0, w1, w2, w3, w4, w5, rfl⟩ : ∃ w0 w1 w2 w3 w4 w5 : Value, args = #[w0, w1, w2, w3, w4, w5] := by
    have hs : args.size = 6 := by simpa [Cond.value, given_1] using hcount
    obtain ⟨L⟩ := args
    match L, hs with
    | [w0, w1, w2, w3, w4, w5], _ => exact ⟨w0, w1, w2, w3, w4, w5, rfl⟩
  have hw := fun d (hd : d ∈ tables_1) => atoms_spec (ws := Jvm.Cond.code x code maxLocals ret :: tables_1) hat d (List.mem_cons_of_mem _ hd)
  have hfit : Fit s := fun {y c} hc i hi => by
    obtain ⟨ha, rfl⟩ := Array.getElem?_eq_some_iff.mp hc
    have q := List.all_eq_true.mp ((Array.all_eq_true_iff_forall_mem.mp hF) _ (Array.getElem_mem ha)) i (List.mem_range.mpr hi)
    simpa [Array.getElem?_eq_getElem hi] using q
  obtain ⟨i0, j0⟩ := is_v k0
  obtain rfl : w0 = (.int i0) := Option.some.inj j0
  obtain ⟨i1, j1⟩ := is_v k1
  obtain rfl : w1 = (.int i1) := Option.some.inj j1
  obtain ⟨i2, j2⟩ := isL_v k2
  obtain rfl : w2 = (.long i2) := Option.some.inj j2
  obtain ⟨i3, j3⟩ := isL_v k3
  obtain rfl : w3 = (.long i3) := Option.some.inj j3
  obtain ⟨i4, j4⟩ := isL_v k4
  obtain rfl : w4 = (.long i4) := Option.some.inj j4
  obtain ⟨i5, j5⟩ := is_v k5
  obtain rfl : w5 = (.int i5) := Option.some.inj j5
  obtain ⟨hsets, hown0⟩ := atoms_of _ (rest_1_c_eq ▸ (show rest_1_c.before _ s = true from hrest))
  have x1 := Cond.before_iff.mp (hsets _ (List.mem_of_getElem? (i := 7) rfl))
  obtain ⟨dv, e1⟩ := exa_v x1
  have SD := Sta.start e1 (Or.inr ⟨(hw _ (List.mem_of_getElem? (i := 39) rfl)), hsets _ (List.mem_of_getElem? (i := 2) rfl)⟩)
  have x2 := Cond.before_iff.mp (hsets _ (List.mem_of_getElem? (i := 13) rfl))
  obtain ⟨bz, e2⟩ := exa_v x2
  have SZ := Sta.start e2 (Or.inl (hsets _ (List.mem_of_getElem? (i := 10) rfl)))
  obtain ⟨n, o, h1, h2, h3, _, L, rfl, ⟨rfl, N⟩, hq⟩ := rm0 l s _ hw tables_1 i0 i1 i2 i3 i4 i5 dv bz s.heap s.heap.size (Nat.le_refl _) SD SZ p e ha hc hk s m _ below hf ((Spec.applies_iff_loose hf).mp happ).1 ⟨rfl, State.Warmed39.refl s, rfl⟩ trivial
  refine ⟨n, _, h1, h2, h3, hpost _ _ _ _ _ _ ⟨Cond.after_iff.mpr rfl, Cond.after_iff.mpr (eq_i res_at (Term.int_eval (1)) rfl), trivial⟩ ⟨hq.1, hq.2.1, (hq.2.2.sift fun y hy => Or.inr (N y hy)).mono (by decide) (by decide)⟩⟩
theorem main_1_1 : Claimed_1_1 := comes_1 fun _ _ _ _ _ _ h hF => ⟨h.1, hF⟩
theorem main_1_2 : Claimed_1_2 := comes_1 fun _ _ _ _ _ _ h hF => ⟨h.2.1, hF⟩
end Jvm.Pilot.@@N@@
namespace Jvm.Pilot.@@N@@
open Jvm Jvm.ClassFile Sem Op Lib Jvm.Free Jvm.Stand Jvm.Pilot.@@N@@.Jvm.D
/-! MADE BY PROGRAM (witnessworld.py) out of the Statement's table words and the real class files: 32 classes; the members and pool entries that the words name. The judged class is class 1, her method 1. -/
namespace start1
open Jvm.ClassFile
def u (s : String) : CpInfo := .utf8 (stringToUtf16 s)
/-- a pool by its gaps: so many unusable entries, then the entry; so many at the end -/
def gap : Nat → List CpInfo → List CpInfo
  | 0, r => r
  | n + 1, r => .unusable :: gap n r
def poolList (es : List (Nat × CpInfo)) (last : Nat) : List CpInfo := es.foldr (fun e r => gap e.1 (e.2 :: r)) (gap last [])
def pool (es : List (Nat × CpInfo)) (last : Nat) : Array CpInfo := ⟨poolList es last⟩
def fileOf (pool : Array CpInfo) (this : Nat) (attrs : Array Attribute := #[]) (ms : Array MethodInfo := #[]) (fl : Nat := 33) (sup : Nat := 0) (ifs : Array Nat := #[]) (fds : Array FieldInfo := #[]) : ClassFile where
  minorVersion := 0
  majorVersion := 65
  constantPool := pool
  accessFlags := fl
  thisClass := this
  superClass := sup
  interfaces := ifs
  fields := fds
  methods := ms
  attributes := attrs
def plain (name : String) (sup : Option ClassId) : Class where
  name := name
  kind := .ordinary
  loader := none
  accessFlags := 33
  super := sup
  interfaces := #[]
  cf := none
  fields := #[]
  methods := #[]
  instanceTypes := #[]
  staticTypes := #[]
  resolved := #[]
  callSites := []
  init := .initialized
  statics := none
  mirror := none

def pool0 : Array CpInfo := pool [(5, u "<init>"), (0, u "()V"), (1, .class_ 10), (1, u "java/lang/Object")] 113

def k0c0 : Code := { maxStack := 0, maxLocals := 1, code := object_method_1_code, exceptionTable := #[], attributes := #[] }
def k0m0 : Method := { name := "<init>", desc := "()V", sig := { parameters := [], returnType := none }, accessFlags := 1, code := some k0c0 }
/-- java/lang/Object -/
def k0 : Class := { plain "java/lang/Object" none with
  accessFlags := 33
  interfaces := #[]
  cf := some (fileOf pool0 8 #[] #[{ accessFlags := 1, nameIndex := 5, descriptorIndex := 6, attributes := #[] }] 33 0 #[] #[])
  fields := #[]
  methods := #[k0m0]
  instanceTypes := #[]
  staticTypes := #[]
  resolved := Array.replicate 124 none
  statics := none }

def pool1 : Array CpInfo := pool [(2, .class_ 4), (1, u "java/lang/Object"), (0, u "<init>"), (0, u "()V"), (0, .class_ 8), (0, u "com/example/margrave/margrave/engine/Holdings"), (0, .methodref 7 10), (0, .nameAndType 5 11), (0, u "(I)V"), (0, .methodref 7 13), (0, .nameAndType 14 15), (0, u "open"), (0, u "(ILjava/math/BigDecimal;Ljava/math/BigDecimal;JI)V"), (0, .methodref 7 17), (0, .nameAndType 18 19), (0, u "holdFromBefore"), (0, u "(IILcom/example/margrave/margrave/OpeningTrade;J)V"), (0, .methodref 7 21), (0, .nameAndType 22 23), (0, u "isTraded"), (0, u "(I)Z"), (0, .methodref 7 25), (0, .nameAndType 26 27), (0, u "lots"), (0, u "(I)J"), (0, .methodref 7 29), (0, .nameAndType 30 11), (0, u "release"), (0, .class_ 32), (0, u "com/example/margrave/margrave/engine/HoldingsReleasePinLaw"), (2, u "law"), (0, u "(IIJJJI)Z")] 3

def k1m0 : Method := { name := "<init>", desc := "()V", sig := { parameters := [], returnType := none }, accessFlags := 1, code := none }
def k1c1 : Code := { maxStack := 7, maxLocals := 17, code := code, exceptionTable := #[], attributes := #[] }
def k1m1 : Method := { name := "law", desc := "(IIJJJI)Z", sig := { parameters := [.int, .int, .long, .long, .long, .int], returnType := some .boolean }, accessFlags := 9, code := some k1c1 }
/-- com/example/margrave/margrave/engine/HoldingsReleasePinLaw -/
def k1 : Class := { plain "com/example/margrave/margrave/engine/HoldingsReleasePinLaw" (some 0) with
  accessFlags := 49
  interfaces := #[]
  cf := some (fileOf pool1 31 #[] #[{ accessFlags := 1, nameIndex := 5, descriptorIndex := 6, attributes := #[] }, { accessFlags := 9, nameIndex := 35, descriptorIndex := 36, attributes := #[] }] 49 2 #[] #[])
  fields := #[]
  methods := #[k1m0, k1m1]
  instanceTypes := #[]
  staticTypes := #[]
  resolved := Array.replicate 40 none
  statics := none }

def pool2 : Array CpInfo := pool [(1, .methodref 2 3), (0, .class_ 4), (0, .nameAndType 5 6), (0, u "com/example/margrave/margrave/engine/Holdings"), (0, u "<init>"), (0, u "(ILcom/example/margrave/margrave/engine/LotGroups;Ljava/util/function/LongBinaryOperator;)V"), (0, .methodref 8 9), (0, .class_ 10), (0, .nameAndType 5 11), (0, u "java/lang/Object"), (0, u "()V"), (0, .class_ 13), (0, u "com/example/margrave/margrave/engine/Holdings$Numbering"), (0, .methodref 12 9), (0, .fieldref 2 16), (0, .nameAndType 17 18), (0, u "members"), (0, u "Lcom/example/margrave/margrave/engine/Holdings$Numbering;"), (0, .fieldref 2 20), (0, .nameAndType 21 18), (0, u "clients"), (0, .fieldref 2 23), (0, .nameAndType 24 18), (0, u "contracts"), (0, .fieldref 2 26), (0, .nameAndType 27 28), (0, u "inOrder"), (0, u "Z"), (0, .fieldref 2 30), (0, .nameAndType 31 28), (0, u "detailed"), (0, .fieldref 2 33), (0, .nameAndType 34 35), (0, u "groups"), (0, u "Lcom/example/margrave/margrave/engine/LotGroups;"), (0, .fieldref 2 37), (0, .nameAndType 38 39), (0, u "hash"), (0, u "Ljava/util/function/LongBinaryOperator;"), (0, .methodref 2 41), (0, .nameAndType 42 43), (0, u "makeRoom"), (0, u "(I)V"), (2, u "count"), (0, u "I"), (6, u "index"), (9, .fieldref 2 65), (0, .nameAndType 54 66), (0, u "Lcom/example/margrave/margrave/engine/HashIndex;"), (8, u "entry"), (18, u "add"), (0, u "(II)I"), (0, .fieldref 2 97), (0, .nameAndType 98 99), (0, u "before"), (0, u "[J"), (4, u "holdFromBefore"), (0, u "(IILcom/example/margrave/margrave/OpeningTrade;J)V"), (3, .methodref 2 110), (0, .nameAndType 111 112), (0, u "traded"), (0, u "(ILjava/math/BigDecimal;)Lcom/example/margrave/margrave/engine/Holding;"), (0, .methodref 114 115), (0, .class_ 116), (0, .nameAndType 94 117), (0, u "com/example/margrave/margrave/engine/Holding"), (0, u "(Ljava/math/BigDecimal;J)V"), (18, .class_ 138), (1, u "java/lang/Math"), (7, .fieldref 2 147), (0, .nameAndType 148 99), (0, u "fees"), (0, .fieldref 2 150), (0, .nameAndType 151 152), (0, u "member"), (0, u "[I"), (7, u "()J"), (5, .fieldref 2 167), (0, .nameAndType 168 169), (0, u "feesPast"), (0, u "[Ljava/math/BigDecimal;"), (14, .methodref 2 185), (0, .nameAndType 75 186), (0, u "(I)Lcom/example/margrave/margrave/engine/Holding;"), (0, .methodref 114 188), (0, .nameAndType 5 189), (0, u "(Z)V"), (8, u "(I)J"), (0, .fieldref 2 200), (0, .nameAndType 201 202), (0, u "entries"), (0, u "[Lcom/example/margrave/margrave/engine/Holding;"), (0, .methodref 114 204), (0, .nameAndType 205 160), (0, u "lots"), (34, u "side"), (62, .fieldref 2 304), (0, .nameAndType 305 152), (0, u "client"), (0, .fieldref 2 307), (0, .nameAndType 308 152), (0, u "contract"), (15, u "SIDES"), (0, u "[Lcom/example/margrave/margrave/Side;"), (0, .fieldref 2 327), (0, .nameAndType 240 328), (0, u "[B"), (2, u "PURPOSES"), (0, u "[Lcom/example/margrave/margrave/Purpose;"), (0, .fieldref 2 334), (0, .nameAndType 335 328), (0, u "purpose"), (2, u "SIDE_RANKS"), (2, u "PURPOSE_RANKS"), (25, .methodref 136 368), (0, .nameAndType 369 95), (0, u "max"), (109, u "LEAST_ROOM"), (17, u "open"), (0, u "(ILjava/math/BigDecimal;Ljava/math/BigDecimal;JI)V"), (5, u "isTraded"), (0, u "(I)Z"), (20, u "release")] 62

def k2c0 : Code := { maxStack := 4, maxLocals := 2, code := prog_82_method_1_code, exceptionTable := #[], attributes := #[] }
def k2m0 : Method := { name := "<init>", desc := "(I)V", sig := { parameters := [.int], returnType := none }, accessFlags := 0, code := some k2c0 }
def k2c1 : Code := { maxStack := 3, maxLocals := 4, code := prog_82_method_3_code, exceptionTable := #[], attributes := #[] }
def k2m1 : Method := { name := "<init>", desc := "(ILcom/example/margrave/margrave/engine/LotGroups;Ljava/util/function/LongBinaryOperator;)V", sig := { parameters := [.int, (.object "com/example/margrave/margrave/engine/LotGroups"), (.object "java/util/function/LongBinaryOperator")], returnType := none }, accessFlags := 0, code := some k2c1 }
def k2c2 : Code := { maxStack := 6, maxLocals := 6, code := prog_82_method_10_code, exceptionTable := #[], attributes := #[] }
def k2m2 : Method := { name := "holdFromBefore", desc := "(IILcom/example/margrave/margrave/OpeningTrade;J)V", sig := { parameters := [.int, .int, (.object "com/example/margrave/margrave/OpeningTrade"), .long], returnType := none }, accessFlags := 0, code := some k2c2 }
def k2c3 : Code := { maxStack := 4, maxLocals := 8, code := prog_82_method_12_code, exceptionTable := #[], attributes := #[] }
def k2m3 : Method := { name := "open", desc := "(ILjava/math/BigDecimal;Ljava/math/BigDecimal;JI)V", sig := { parameters := [.int, (.object "java/math/BigDecimal"), (.object "java/math/BigDecimal"), .long, .int], returnType := none }, accessFlags := 0, code := some k2c3 }
def k2c4 : Code := { maxStack := 4, maxLocals := 6, code := prog_82_method_17_code, exceptionTable := #[], attributes := #[] }
def k2m4 : Method := { name := "traded", desc := "(ILjava/math/BigDecimal;)Lcom/example/margrave/margrave/engine/Holding;", sig := { parameters := [.int, (.object "java/math/BigDecimal")], returnType := some (.object "com/example/margrave/margrave/engine/Holding") }, accessFlags := 2, code := some k2c4 }
def k2c5 : Code := { maxStack := 2, maxLocals := 2, code := prog_82_method_18_code, exceptionTable := #[], attributes := #[] }
def k2m5 : Method := { name := "isTraded", desc := "(I)Z", sig := { parameters := [.int], returnType := some .boolean }, accessFlags := 0, code := some k2c5 }
def k2c6 : Code := { maxStack := 2, maxLocals := 3, code := prog_82_method_19_code, exceptionTable := #[], attributes := #[] }
def k2m6 : Method := { name := "lots", desc := "(I)J", sig := { parameters := [.int], returnType := some .long }, accessFlags := 0, code := some k2c6 }
def k2c7 : Code := { maxStack := 3, maxLocals := 2, code := prog_82_method_47_code, exceptionTable := #[], attributes := #[] }
def k2m7 : Method := { name := "release", desc := "(I)V", sig := { parameters := [.int], returnType := none }, accessFlags := 0, code := some k2c7 }
def k2c8 : Code := { maxStack := 2, maxLocals := 2, code := prog_82_method_49_code, exceptionTable := #[], attributes := #[] }
def k2m8 : Method := { name := "entry", desc := "(I)Lcom/example/margrave/margrave/engine/Holding;", sig := { parameters := [.int], returnType := some (.object "com/example/margrave/margrave/engine/Holding") }, accessFlags := 2, code := some k2c8 }
def k2c9 : Code := { maxStack := 2, maxLocals := 3, code := prog_82_method_50_code, exceptionTable := #[], attributes := #[] }
def k2m9 : Method := { name := "makeRoom", desc := "(I)V", sig := { parameters := [.int], returnType := none }, accessFlags := 2, code := some k2c9 }
/-- com/example/margrave/margrave/engine/Holdings -/
def k2 : Class := { plain "com/example/margrave/margrave/engine/Holdings" (some 0) with
  accessFlags := 32
  interfaces := #[]
  cf := some (fileOf pool2 2 #[.nestMembers #[12]] #[{ accessFlags := 0, nameIndex := 5, descriptorIndex := 43, attributes := #[] }, { accessFlags := 0, nameIndex := 5, descriptorIndex := 6, attributes := #[] }, { accessFlags := 0, nameIndex := 104, descriptorIndex := 105, attributes := #[] }, { accessFlags := 0, nameIndex := 497, descriptorIndex := 498, attributes := #[] }, { accessFlags := 2, nameIndex := 111, descriptorIndex := 112, attributes := #[] }, { accessFlags := 0, nameIndex := 504, descriptorIndex := 505, attributes := #[] }, { accessFlags := 0, nameIndex := 205, descriptorIndex := 198, attributes := #[] }, { accessFlags := 0, nameIndex := 526, descriptorIndex := 43, attributes := #[] }, { accessFlags := 2, nameIndex := 75, descriptorIndex := 186, attributes := #[] }, { accessFlags := 2, nameIndex := 42, descriptorIndex := 43, attributes := #[] }] 32 8 #[] #[{ accessFlags := 26, nameIndex := 324, descriptorIndex := 325, attributes := #[] }, { accessFlags := 26, nameIndex := 331, descriptorIndex := 332, attributes := #[] }, { accessFlags := 26, nameIndex := 338, descriptorIndex := 152, attributes := #[] }, { accessFlags := 26, nameIndex := 341, descriptorIndex := 152, attributes := #[] }, { accessFlags := 26, nameIndex := 479, descriptorIndex := 47, attributes := #[] }, { accessFlags := 2, nameIndex := 38, descriptorIndex := 39, attributes := #[] }, { accessFlags := 18, nameIndex := 31, descriptorIndex := 28, attributes := #[] }, { accessFlags := 2, nameIndex := 34, descriptorIndex := 35, attributes := #[] }, { accessFlags := 18, nameIndex := 17, descriptorIndex := 18, attributes := #[] }, { accessFlags := 18, nameIndex := 21, descriptorIndex := 18, attributes := #[] }, { accessFlags := 18, nameIndex := 24, descriptorIndex := 18, attributes := #[] }, { accessFlags := 2, nameIndex := 151, descriptorIndex := 152, attributes := #[] }, { accessFlags := 2, nameIndex := 305, descriptorIndex := 152, attributes := #[] }, { accessFlags := 2, nameIndex := 308, descriptorIndex := 152, attributes := #[] }, { accessFlags := 2, nameIndex := 240, descriptorIndex := 328, attributes := #[] }, { accessFlags := 2, nameIndex := 335, descriptorIndex := 328, attributes := #[] }, { accessFlags := 2, nameIndex := 98, descriptorIndex := 99, attributes := #[] }, { accessFlags := 2, nameIndex := 201, descriptorIndex := 202, attributes := #[] }, { accessFlags := 2, nameIndex := 148, descriptorIndex := 99, attributes := #[] }, { accessFlags := 2, nameIndex := 168, descriptorIndex := 169, attributes := #[] }, { accessFlags := 2, nameIndex := 54, descriptorIndex := 66, attributes := #[] }, { accessFlags := 2, nameIndex := 46, descriptorIndex := 47, attributes := #[] }, { accessFlags := 2, nameIndex := 27, descriptorIndex := 28, attributes := #[] }])
  fields := #[{ name := "SIDES", type := (.array (.object "com/example/margrave/margrave/Side")), accessFlags := 26, slot := 0, constantValue := 0 }, { name := "PURPOSES", type := (.array (.object "com/example/margrave/margrave/Purpose")), accessFlags := 26, slot := 1, constantValue := 0 }, { name := "SIDE_RANKS", type := (.array .int), accessFlags := 26, slot := 2, constantValue := 0 }, { name := "PURPOSE_RANKS", type := (.array .int), accessFlags := 26, slot := 3, constantValue := 0 }, { name := "LEAST_ROOM", type := .int, accessFlags := 26, slot := 4, constantValue := 0 }, { name := "hash", type := (.object "java/util/function/LongBinaryOperator"), accessFlags := 2, slot := 0, constantValue := 0 }, { name := "detailed", type := .boolean, accessFlags := 18, slot := 1, constantValue := 0 }, { name := "groups", type := (.object "com/example/margrave/margrave/engine/LotGroups"), accessFlags := 2, slot := 2, constantValue := 0 }, { name := "members", type := (.object "com/example/margrave/margrave/engine/Holdings$Numbering"), accessFlags := 18, slot := 3, constantValue := 0 }, { name := "clients", type := (.object "com/example/margrave/margrave/engine/Holdings$Numbering"), accessFlags := 18, slot := 4, constantValue := 0 }, { name := "contracts", type := (.object "com/example/margrave/margrave/engine/Holdings$Numbering"), accessFlags := 18, slot := 5, constantValue := 0 }, { name := "member", type := (.array .int), accessFlags := 2, slot := 6, constantValue := 0 }, { name := "client", type := (.array .int), accessFlags := 2, slot := 7, constantValue := 0 }, { name := "contract", type := (.array .int), accessFlags := 2, slot := 8, constantValue := 0 }, { name := "side", type := (.array .byte), accessFlags := 2, slot := 9, constantValue := 0 }, { name := "purpose", type := (.array .byte), accessFlags := 2, slot := 10, constantValue := 0 }, { name := "before", type := (.array .long), accessFlags := 2, slot := 11, constantValue := 0 }, { name := "entries", type := (.array (.object "com/example/margrave/margrave/engine/Holding")), accessFlags := 2, slot := 12, constantValue := 0 }, { name := "fees", type := (.array .long), accessFlags := 2, slot := 13, constantValue := 0 }, { name := "feesPast", type := (.array (.object "java/math/BigDecimal")), accessFlags := 2, slot := 14, constantValue := 0 }, { name := "index", type := (.object "com/example/margrave/margrave/engine/HashIndex"), accessFlags := 2, slot := 15, constantValue := 0 }, { name := "count", type := .int, accessFlags := 2, slot := 16, constantValue := 0 }, { name := "inOrder", type := .boolean, accessFlags := 2, slot := 17, constantValue := 0 }]
  methods := #[k2m0, k2m1, k2m2, k2m3, k2m4, k2m5, k2m6, k2m7, k2m8, k2m9]
  instanceTypes := #[(.object "java/util/function/LongBinaryOperator"), .boolean, (.object "com/example/margrave/margrave/engine/LotGroups"), (.object "com/example/margrave/margrave/engine/Holdings$Numbering"), (.object "com/example/margrave/margrave/engine/Holdings$Numbering"), (.object "com/example/margrave/margrave/engine/Holdings$Numbering"), (.array .int), (.array .int), (.array .int), (.array .byte), (.array .byte), (.array .long), (.array (.object "com/example/margrave/margrave/engine/Holding")), (.array .long), (.array (.object "java/math/BigDecimal")), (.object "com/example/margrave/margrave/engine/HashIndex"), .int, .boolean]
  staticTypes := #[(.array (.object "com/example/margrave/margrave/Side")), (.array (.object "com/example/margrave/margrave/Purpose")), (.array .int), (.array .int), .int]
  resolved := ((Array.replicate 589 none).setIfInBounds 12 (some (.cls 3))).setIfInBounds 14 (some (.method ⟨3, 0⟩))
  statics := none }

def pool3 : Array CpInfo := pool [(1, .methodref 2 3), (0, .class_ 4), (0, .nameAndType 5 6), (0, u "java/lang/Object"), (0, u "<init>"), (0, u "()V"), (0, .class_ 8), (0, u "java/util/HashMap"), (0, .methodref 7 3), (0, .fieldref 11 12), (0, .class_ 13), (0, .nameAndType 14 15), (0, u "com/example/margrave/margrave/engine/Holdings$Numbering"), (0, u "numbers"), (0, u "Ljava/util/Map;"), (0, .class_ 17), (0, u "java/util/ArrayList"), (0, .methodref 16 3), (0, .fieldref 11 20), (0, .nameAndType 21 22), (0, u "ids"), (0, u "Ljava/util/List;"), (2, u "last"), (0, u "Ljava/lang/Object;"), (31, u "lastNumber"), (0, u "I"), (21, .class_ 82), (0, u "com/example/margrave/margrave/engine/Holdings")] 2

def k3c0 : Code := { maxStack := 3, maxLocals := 1, code := prog_83_method_1_code, exceptionTable := #[], attributes := #[] }
def k3m0 : Method := { name := "<init>", desc := "()V", sig := { parameters := [], returnType := none }, accessFlags := 2, code := some k3c0 }
/-- com/example/margrave/margrave/engine/Holdings$Numbering -/
def k3 : Class := { plain "com/example/margrave/margrave/engine/Holdings$Numbering" (some 0) with
  accessFlags := 32
  interfaces := #[]
  cf := some (fileOf pool3 11 #[.nestHost 81] #[{ accessFlags := 2, nameIndex := 5, descriptorIndex := 6, attributes := #[] }] 32 2 #[] #[{ accessFlags := 18, nameIndex := 14, descriptorIndex := 15, attributes := #[] }, { accessFlags := 18, nameIndex := 21, descriptorIndex := 22, attributes := #[] }, { accessFlags := 2, nameIndex := 25, descriptorIndex := 26, attributes := #[] }, { accessFlags := 2, nameIndex := 58, descriptorIndex := 59, attributes := #[] }])
  fields := #[{ name := "numbers", type := (.object "java/util/Map"), accessFlags := 18, slot := 0, constantValue := 0 }, { name := "ids", type := (.object "java/util/List"), accessFlags := 18, slot := 1, constantValue := 0 }, { name := "last", type := (.object "java/lang/Object"), accessFlags := 2, slot := 2, constantValue := 0 }, { name := "lastNumber", type := .int, accessFlags := 2, slot := 3, constantValue := 0 }]
  methods := #[k3m0]
  instanceTypes := #[(.object "java/util/Map"), (.object "java/util/List"), (.object "java/lang/Object"), .int]
  staticTypes := #[]
  resolved := Array.replicate 85 none
  statics := none }

def pool4 : Array CpInfo := pool [(2, .class_ 4), (1, u "java/util/Map"), (31, .class_ 37), (0, u "java/util/Map$Entry"), (55, .class_ 94), (0, u "java/lang/Object")] 168

/-- java/util/Map -/
def k4 : Class := { plain "java/util/Map" (some 0) with
  accessFlags := 1537
  interfaces := #[]
  cf := some (fileOf pool4 2 #[.nestMembers #[36]] #[] 1537 93 #[] #[])
  fields := #[]
  methods := #[]
  instanceTypes := #[]
  staticTypes := #[]
  resolved := Array.replicate 263 none
  statics := none }

def pool5 : Array CpInfo := pool [(1, .methodref 2 3), (0, .class_ 4), (0, .nameAndType 5 6), (0, u "java/lang/Object"), (0, u "<init>"), (0, u "()V"), (1, .class_ 10), (1, u "java/util/AbstractMap"), (42, .class_ 54), (0, u "java/util/Map"), (9, u "keySet"), (0, u "Ljava/util/Set;"), (0, .class_ 67), (0, u "java/util/AbstractMap$1"), (5, u "values"), (0, u "Ljava/util/Collection;"), (0, .class_ 76), (0, u "java/util/AbstractMap$2"), (104, .class_ 182), (0, u "java/util/AbstractMap$ViewCollection"), (0, .class_ 184), (0, u "java/util/AbstractMap$SimpleImmutableEntry"), (0, .class_ 186), (0, u "java/util/AbstractMap$SimpleEntry"), (0, .class_ 188), (0, u "java/util/AbstractMap$2$1"), (0, .class_ 190), (0, u "java/util/AbstractMap$1$1")] 5

def k5c0 : Code := { maxStack := 1, maxLocals := 1, code := jdk_71_method_1_code, exceptionTable := #[], attributes := #[] }
def k5m0 : Method := { name := "<init>", desc := "()V", sig := { parameters := [], returnType := none }, accessFlags := 4, code := some k5c0 }
/-- java/util/AbstractMap -/
def k5 : Class := { plain "java/util/AbstractMap" (some 0) with
  accessFlags := 1057
  interfaces := #[4]
  cf := some (fileOf pool5 8 #[.nestMembers #[181, 183, 185, 75, 187, 66, 189]] #[{ accessFlags := 4, nameIndex := 5, descriptorIndex := 6, attributes := #[] }] 1057 2 #[53] #[{ accessFlags := 128, nameIndex := 64, descriptorIndex := 65, attributes := #[] }, { accessFlags := 128, nameIndex := 73, descriptorIndex := 74, attributes := #[] }])
  fields := #[{ name := "keySet", type := (.object "java/util/Set"), accessFlags := 128, slot := 0, constantValue := 0 }, { name := "values", type := (.object "java/util/Collection"), accessFlags := 128, slot := 1, constantValue := 0 }]
  methods := #[k5m0]
  instanceTypes := #[(.object "java/util/Set"), (.object "java/util/Collection")]
  staticTypes := #[]
  resolved := Array.replicate 196 none
  statics := none }

def pool6 : Array CpInfo := pool [(1, .class_ 2), (0, u "java/lang/Cloneable"), (0, .class_ 4), (0, u "java/lang/Object")] 2

/-- java/lang/Cloneable -/
def k6 : Class := { plain "java/lang/Cloneable" (some 0) with
  accessFlags := 1537
  interfaces := #[]
  cf := some (fileOf pool6 1 #[] #[] 1537 3 #[] #[])
  fields := #[]
  methods := #[]
  instanceTypes := #[]
  staticTypes := #[]
  resolved := Array.replicate 7 none
  statics := none }

def pool7 : Array CpInfo := pool [(1, .class_ 2), (0, u "java/io/Serializable"), (0, .class_ 4), (0, u "java/lang/Object")] 2

/-- java/io/Serializable -/
def k7 : Class := { plain "java/io/Serializable" (some 0) with
  accessFlags := 1537
  interfaces := #[]
  cf := some (fileOf pool7 1 #[] #[] 1537 3 #[] #[])
  fields := #[]
  methods := #[]
  instanceTypes := #[]
  staticTypes := #[]
  resolved := Array.replicate 7 none
  statics := none }

def pool8 : Array CpInfo := pool [(40, .class_ 41), (0, u "java/util/HashMap"), (1, .methodref 44 45), (0, .class_ 46), (0, .nameAndType 47 48), (0, u "java/util/AbstractMap"), (0, u "<init>"), (0, u "()V"), (32, .fieldref 40 82), (0, .nameAndType 83 84), (0, u "loadFactor"), (0, u "F"), (5, u "threshold"), (0, u "I"), (0, .float 1061158912), (8, .class_ 103), (1, u "java/util/Map"), (0, u "size"), (2, u "table"), (0, u "[Ljava/util/HashMap$Node;"), (14, u "entrySet"), (39, .class_ 165), (1, u "java/util/HashMap$Node"), (14, .class_ 181), (0, u "java/util/HashMap$TreeNode"), (22, u "modCount"), (37, u "Ljava/util/Set;"), (0, .class_ 244), (0, u "java/util/HashMap$KeySet"), (18, .class_ 264), (0, u "java/util/HashMap$Values"), (3, .class_ 269), (0, u "java/util/HashMap$EntrySet"), (76, .class_ 348), (1, u "java/util/HashMap$UnsafeHolder"), (43, .class_ 393), (0, u "java/lang/Cloneable"), (0, .class_ 395), (0, u "java/io/Serializable"), (0, u "serialVersionUID"), (0, u "J"), (3, u "DEFAULT_INITIAL_CAPACITY"), (1, u "MAXIMUM_CAPACITY"), (0, u "DEFAULT_LOAD_FACTOR"), (0, u "TREEIFY_THRESHOLD"), (1, u "UNTREEIFY_THRESHOLD"), (1, u "MIN_TREEIFY_CAPACITY"), (186, .class_ 597), (0, u "java/util/HashMap$EntrySpliterator"), (0, .class_ 599), (0, u "java/util/HashMap$ValueSpliterator"), (0, .class_ 601), (0, u "java/util/HashMap$KeySpliterator"), (0, .class_ 603), (0, u "java/util/HashMap$HashMapSpliterator"), (0, .class_ 605), (0, u "java/util/HashMap$EntryIterator"), (0, .class_ 607), (0, u "java/util/HashMap$ValueIterator"), (0, .class_ 609), (0, u "java/util/HashMap$KeyIterator"), (0, .class_ 611), (0, u "java/util/HashMap$HashIterator")] 17

def k8c0 : Code := { maxStack := 2, maxLocals := 1, code := jdk_69_method_7_code, exceptionTable := #[], attributes := #[] }
def k8m0 : Method := { name := "<init>", desc := "()V", sig := { parameters := [], returnType := none }, accessFlags := 1, code := some k8c0 }
/-- java/util/HashMap -/
def k8 : Class := { plain "java/util/HashMap" (some 5) with
  accessFlags := 33
  interfaces := #[4, 6, 7]
  cf := some (fileOf pool8 40 #[.nestMembers #[180, 596, 598, 600, 602, 604, 606, 608, 610, 346, 268, 263, 243, 163]] #[{ accessFlags := 1, nameIndex := 47, descriptorIndex := 48, attributes := #[] }] 33 44 #[101, 392, 394] #[{ accessFlags := 26, nameIndex := 396, descriptorIndex := 397, attributes := #[] }, { accessFlags := 24, nameIndex := 401, descriptorIndex := 91, attributes := #[] }, { accessFlags := 24, nameIndex := 403, descriptorIndex := 91, attributes := #[] }, { accessFlags := 24, nameIndex := 404, descriptorIndex := 84, attributes := #[] }, { accessFlags := 24, nameIndex := 405, descriptorIndex := 91, attributes := #[] }, { accessFlags := 24, nameIndex := 407, descriptorIndex := 91, attributes := #[] }, { accessFlags := 24, nameIndex := 409, descriptorIndex := 91, attributes := #[] }, { accessFlags := 128, nameIndex := 107, descriptorIndex := 108, attributes := #[] }, { accessFlags := 128, nameIndex := 123, descriptorIndex := 242, attributes := #[] }, { accessFlags := 128, nameIndex := 104, descriptorIndex := 91, attributes := #[] }, { accessFlags := 128, nameIndex := 204, descriptorIndex := 91, attributes := #[] }, { accessFlags := 0, nameIndex := 90, descriptorIndex := 91, attributes := #[] }, { accessFlags := 16, nameIndex := 83, descriptorIndex := 84, attributes := #[] }])
  fields := #[{ name := "serialVersionUID", type := .long, accessFlags := 26, slot := 0, constantValue := 0 }, { name := "DEFAULT_INITIAL_CAPACITY", type := .int, accessFlags := 24, slot := 1, constantValue := 0 }, { name := "MAXIMUM_CAPACITY", type := .int, accessFlags := 24, slot := 2, constantValue := 0 }, { name := "DEFAULT_LOAD_FACTOR", type := .float, accessFlags := 24, slot := 3, constantValue := 0 }, { name := "TREEIFY_THRESHOLD", type := .int, accessFlags := 24, slot := 4, constantValue := 0 }, { name := "UNTREEIFY_THRESHOLD", type := .int, accessFlags := 24, slot := 5, constantValue := 0 }, { name := "MIN_TREEIFY_CAPACITY", type := .int, accessFlags := 24, slot := 6, constantValue := 0 }, { name := "table", type := (.array (.object "java/util/HashMap$Node")), accessFlags := 128, slot := 2, constantValue := 0 }, { name := "entrySet", type := (.object "java/util/Set"), accessFlags := 128, slot := 3, constantValue := 0 }, { name := "size", type := .int, accessFlags := 128, slot := 4, constantValue := 0 }, { name := "modCount", type := .int, accessFlags := 128, slot := 5, constantValue := 0 }, { name := "threshold", type := .int, accessFlags := 0, slot := 6, constantValue := 0 }, { name := "loadFactor", type := .float, accessFlags := 16, slot := 7, constantValue := 0 }]
  methods := #[k8m0]
  instanceTypes := #[(.object "java/util/Set"), (.object "java/util/Collection"), (.array (.object "java/util/HashMap$Node")), (.object "java/util/Set"), .int, .int, .int, .float]
  staticTypes := #[.long, .int, .int, .float, .int, .int, .int]
  resolved := Array.replicate 629 none
  statics := none }

def pool9 : Array CpInfo := pool [(8, .class_ 10), (1, u "java/lang/Iterable"), (24, .class_ 36), (0, u "java/lang/Object")] 25

/-- java/lang/Iterable -/
def k9 : Class := { plain "java/lang/Iterable" (some 0) with
  accessFlags := 1537
  interfaces := #[]
  cf := some (fileOf pool9 8 #[] #[] 1537 35 #[] #[])
  fields := #[]
  methods := #[]
  instanceTypes := #[]
  staticTypes := #[]
  resolved := Array.replicate 62 none
  statics := none }

def pool10 : Array CpInfo := pool [(10, .class_ 12), (1, u "java/util/Collection"), (47, .class_ 61), (0, u "java/lang/Object"), (0, .class_ 63), (0, u "java/lang/Iterable")] 51

/-- java/util/Collection -/
def k10 : Class := { plain "java/util/Collection" (some 0) with
  accessFlags := 1537
  interfaces := #[9]
  cf := some (fileOf pool10 10 #[] #[] 1537 60 #[62] #[])
  fields := #[]
  methods := #[]
  instanceTypes := #[]
  staticTypes := #[]
  resolved := Array.replicate 115 none
  statics := none }

def pool11 : Array CpInfo := pool [(1, .methodref 2 3), (0, .class_ 4), (0, .nameAndType 5 6), (0, u "java/lang/Object"), (0, u "<init>"), (0, u "()V"), (1, .class_ 10), (1, u "java/util/AbstractCollection"), (66, .class_ 78), (0, u "java/util/Collection")] 81

def k11c0 : Code := { maxStack := 1, maxLocals := 1, code := jdk_22_method_1_code, exceptionTable := #[], attributes := #[] }
def k11m0 : Method := { name := "<init>", desc := "()V", sig := { parameters := [], returnType := none }, accessFlags := 4, code := some k11c0 }
/-- java/util/AbstractCollection -/
def k11 : Class := { plain "java/util/AbstractCollection" (some 0) with
  accessFlags := 1057
  interfaces := #[10]
  cf := some (fileOf pool11 8 #[] #[{ accessFlags := 4, nameIndex := 5, descriptorIndex := 6, attributes := #[] }] 1057 2 #[77] #[])
  fields := #[]
  methods := #[k11m0]
  instanceTypes := #[]
  staticTypes := #[]
  resolved := Array.replicate 160 none
  statics := none }

def pool12 : Array CpInfo := pool [(8, .class_ 10), (1, u "java/util/SequencedCollection"), (15, .class_ 27), (0, u "java/lang/Object"), (0, .class_ 29), (0, u "java/util/Collection")] 27

/-- java/util/SequencedCollection -/
def k12 : Class := { plain "java/util/SequencedCollection" (some 0) with
  accessFlags := 1537
  interfaces := #[10]
  cf := some (fileOf pool12 8 #[] #[] 1537 26 #[28] #[])
  fields := #[]
  methods := #[]
  instanceTypes := #[]
  staticTypes := #[]
  resolved := Array.replicate 57 none
  statics := none }

def pool13 : Array CpInfo := pool [(8, .class_ 10), (1, u "java/util/List"), (92, .class_ 104), (0, u "java/lang/Object"), (15, .class_ 121), (0, u "java/util/SequencedCollection")] 129

/-- java/util/List -/
def k13 : Class := { plain "java/util/List" (some 0) with
  accessFlags := 1537
  interfaces := #[12]
  cf := some (fileOf pool13 8 #[] #[] 1537 103 #[120] #[])
  fields := #[]
  methods := #[]
  instanceTypes := #[]
  staticTypes := #[]
  resolved := Array.replicate 251 none
  statics := none }

def pool14 : Array CpInfo := pool [(1, .methodref 2 3), (0, .class_ 4), (0, .nameAndType 5 6), (0, u "java/util/AbstractCollection"), (0, u "<init>"), (0, u "()V"), (0, .fieldref 8 9), (0, .class_ 10), (0, .nameAndType 11 12), (0, u "java/util/AbstractList"), (0, u "modCount"), (0, u "I"), (64, .class_ 78), (0, u "java/util/AbstractList$Itr"), (3, .class_ 83), (0, u "java/util/AbstractList$ListItr"), (9, .class_ 94), (0, u "java/util/AbstractList$RandomAccessSubList"), (3, .class_ 99), (0, u "java/util/AbstractList$SubList"), (33, .class_ 134), (0, u "java/util/List"), (73, .class_ 209), (0, u "java/util/AbstractList$SubList$1"), (0, .class_ 211), (0, u "java/util/AbstractList$RandomAccessSpliterator")] 6

def k14c0 : Code := { maxStack := 2, maxLocals := 1, code := jdk_39_method_1_code, exceptionTable := #[], attributes := #[] }
def k14m0 : Method := { name := "<init>", desc := "()V", sig := { parameters := [], returnType := none }, accessFlags := 4, code := some k14c0 }
/-- java/util/AbstractList -/
def k14 : Class := { plain "java/util/AbstractList" (some 11) with
  accessFlags := 1057
  interfaces := #[13]
  cf := some (fileOf pool14 8 #[.nestMembers #[93, 98, 208, 210, 82, 77]] #[{ accessFlags := 4, nameIndex := 5, descriptorIndex := 6, attributes := #[] }] 1057 2 #[133] #[{ accessFlags := 132, nameIndex := 11, descriptorIndex := 12, attributes := #[] }])
  fields := #[{ name := "modCount", type := .int, accessFlags := 132, slot := 0, constantValue := 0 }]
  methods := #[k14m0]
  instanceTypes := #[.int]
  staticTypes := #[]
  resolved := Array.replicate 218 none
  statics := none }

def pool15 : Array CpInfo := pool [(1, .class_ 2), (0, u "java/util/RandomAccess"), (0, .class_ 4), (0, u "java/lang/Object")] 2

/-- java/util/RandomAccess -/
def k15 : Class := { plain "java/util/RandomAccess" (some 0) with
  accessFlags := 1537
  interfaces := #[]
  cf := some (fileOf pool15 1 #[] #[] 1537 3 #[] #[])
  fields := #[]
  methods := #[]
  instanceTypes := #[]
  staticTypes := #[]
  resolved := Array.replicate 7 none
  statics := none }

def pool16 : Array CpInfo := pool [(1, .methodref 2 3), (0, .class_ 4), (0, .nameAndType 5 6), (0, u "java/util/AbstractList"), (0, u "<init>"), (0, u "()V"), (2, .fieldref 10 11), (0, .class_ 12), (0, .nameAndType 13 14), (0, u "java/util/ArrayList"), (0, u "elementData"), (0, u "[Ljava/lang/Object;"), (2, u "EMPTY_ELEMENTDATA"), (21, .fieldref 10 40), (0, .nameAndType 41 14), (0, u "DEFAULTCAPACITY_EMPTY_ELEMENTDATA"), (8, u "size"), (0, u "I"), (96, .class_ 149), (0, u "java/util/List"), (112, .class_ 263), (0, u "java/util/ArrayList$ListItr"), (3, .class_ 268), (0, u "java/util/ArrayList$Itr"), (7, .class_ 277), (0, u "java/util/ArrayList$SubList"), (12, .class_ 291), (0, u "java/util/ArrayList$ArrayListSpliterator"), (37, .class_ 330), (0, u "java/util/RandomAccess"), (0, .class_ 332), (0, u "java/lang/Cloneable"), (0, .class_ 334), (0, u "java/io/Serializable"), (0, u "serialVersionUID"), (0, u "J"), (3, u "DEFAULT_CAPACITY"), (159, .class_ 501), (0, u "java/util/ArrayList$SubList$2"), (0, .class_ 503), (0, u "java/util/ArrayList$SubList$1")] 5

def k16c0 : Code := { maxStack := 2, maxLocals := 1, code := jdk_38_method_2_code, exceptionTable := #[], attributes := #[] }
def k16m0 : Method := { name := "<init>", desc := "()V", sig := { parameters := [], returnType := none }, accessFlags := 1, code := some k16c0 }
/-- java/util/ArrayList -/
def k16 : Class := { plain "java/util/ArrayList" (some 14) with
  accessFlags := 33
  interfaces := #[13, 15, 6, 7]
  cf := some (fileOf pool16 10 #[.nestMembers #[290, 276, 500, 502, 262, 267]] #[{ accessFlags := 1, nameIndex := 5, descriptorIndex := 6, attributes := #[] }] 33 2 #[148, 329, 331, 333] #[{ accessFlags := 26, nameIndex := 335, descriptorIndex := 336, attributes := #[] }, { accessFlags := 26, nameIndex := 340, descriptorIndex := 51, attributes := #[] }, { accessFlags := 26, nameIndex := 17, descriptorIndex := 14, attributes := #[] }, { accessFlags := 26, nameIndex := 41, descriptorIndex := 14, attributes := #[] }, { accessFlags := 128, nameIndex := 13, descriptorIndex := 14, attributes := #[] }, { accessFlags := 2, nameIndex := 50, descriptorIndex := 51, attributes := #[] }])
  fields := #[{ name := "serialVersionUID", type := .long, accessFlags := 26, slot := 0, constantValue := 0 }, { name := "DEFAULT_CAPACITY", type := .int, accessFlags := 26, slot := 1, constantValue := 0 }, { name := "EMPTY_ELEMENTDATA", type := (.array (.object "java/lang/Object")), accessFlags := 26, slot := 2, constantValue := 0 }, { name := "DEFAULTCAPACITY_EMPTY_ELEMENTDATA", type := (.array (.object "java/lang/Object")), accessFlags := 26, slot := 3, constantValue := 0 }, { name := "elementData", type := (.array (.object "java/lang/Object")), accessFlags := 128, slot := 1, constantValue := 0 }, { name := "size", type := .int, accessFlags := 2, slot := 2, constantValue := 0 }]
  methods := #[k16m0]
  instanceTypes := #[.int, (.array (.object "java/lang/Object")), .int]
  staticTypes := #[.long, .int, (.array (.object "java/lang/Object")), (.array (.object "java/lang/Object"))]
  resolved := Array.replicate 509 none
  statics := some 0 }

def pool17 : Array CpInfo := pool [(1, .class_ 2), (0, u "java/lang/Math"), (1, .class_ 6), (1, u "java/lang/Object"), (0, u "<init>"), (0, u "()V"), (89, .class_ 100), (1, u "java/lang/Math$RandomNumberGeneratorHolder"), (71, u "negativeZeroFloatBits"), (0, u "J"), (2, u "negativeZeroDoubleBits"), (21, u "max"), (46, u "$assertionsDisabled"), (0, u "Z"), (88, u "(II)I"), (2, u "twoToTheDoubleScaleDown"), (0, u "D"), (4, u "twoToTheDoubleScaleUp"), (9, u "E"), (3, u "PI"), (2, u "TAU"), (2, u "DEGREES_TO_RADIANS"), (0, u "RADIANS_TO_DEGREES")] 94

def k17m0 : Method := { name := "<init>", desc := "()V", sig := { parameters := [], returnType := none }, accessFlags := 2, code := none }
def k17c1 : Code := { maxStack := 2, maxLocals := 2, code := jdk_29_method_65_code, exceptionTable := #[], attributes := #[] }
def k17m1 : Method := { name := "max", desc := "(II)I", sig := { parameters := [.int, .int], returnType := some .int }, accessFlags := 9, code := some k17c1 }
/-- java/lang/Math -/
def k17 : Class := { plain "java/lang/Math" (some 0) with
  accessFlags := 49
  interfaces := #[]
  cf := some (fileOf pool17 1 #[.nestMembers #[98]] #[{ accessFlags := 2, nameIndex := 7, descriptorIndex := 8, attributes := #[] }, { accessFlags := 9, nameIndex := 198, descriptorIndex := 335, attributes := #[] }] 49 4 #[] #[{ accessFlags := 25, nameIndex := 354, descriptorIndex := 339, attributes := #[] }, { accessFlags := 25, nameIndex := 358, descriptorIndex := 339, attributes := #[] }, { accessFlags := 25, nameIndex := 361, descriptorIndex := 339, attributes := #[] }, { accessFlags := 26, nameIndex := 364, descriptorIndex := 339, attributes := #[] }, { accessFlags := 26, nameIndex := 365, descriptorIndex := 339, attributes := #[] }, { accessFlags := 26, nameIndex := 172, descriptorIndex := 173, attributes := #[] }, { accessFlags := 26, nameIndex := 176, descriptorIndex := 173, attributes := #[] }, { accessFlags := 8, nameIndex := 344, descriptorIndex := 339, attributes := #[] }, { accessFlags := 8, nameIndex := 338, descriptorIndex := 339, attributes := #[] }, { accessFlags := 4120, nameIndex := 245, descriptorIndex := 246, attributes := #[] }])
  fields := #[{ name := "E", type := .double, accessFlags := 25, slot := 0, constantValue := 0 }, { name := "PI", type := .double, accessFlags := 25, slot := 1, constantValue := 0 }, { name := "TAU", type := .double, accessFlags := 25, slot := 2, constantValue := 0 }, { name := "DEGREES_TO_RADIANS", type := .double, accessFlags := 26, slot := 3, constantValue := 0 }, { name := "RADIANS_TO_DEGREES", type := .double, accessFlags := 26, slot := 4, constantValue := 0 }, { name := "negativeZeroFloatBits", type := .long, accessFlags := 26, slot := 5, constantValue := 0 }, { name := "negativeZeroDoubleBits", type := .long, accessFlags := 26, slot := 6, constantValue := 0 }, { name := "twoToTheDoubleScaleUp", type := .double, accessFlags := 8, slot := 7, constantValue := 0 }, { name := "twoToTheDoubleScaleDown", type := .double, accessFlags := 8, slot := 8, constantValue := 0 }, { name := "$assertionsDisabled", type := .boolean, accessFlags := 4120, slot := 9, constantValue := 0 }]
  methods := #[k17m0, k17m1]
  instanceTypes := #[]
  staticTypes := #[.double, .double, .double, .double, .double, .long, .long, .double, .double, .boolean]
  resolved := Array.replicate 460 none
  statics := none }

def pool18 : Array CpInfo := pool [(2, .class_ 4), (1, u "com/example/margrave/margrave/engine/Holding"), (0, u "<init>"), (0, u "(Z)V"), (0, .methodref 8 9), (0, .class_ 10), (0, .nameAndType 5 11), (0, u "java/lang/Object"), (0, u "()V"), (0, .fieldref 2 13), (0, .nameAndType 14 15), (0, u "quantities"), (0, u "[J"), (0, .fieldref 17 18), (0, .class_ 19), (0, .nameAndType 20 21), (0, u "java/math/BigDecimal"), (0, u "ZERO"), (0, u "Ljava/math/BigDecimal;"), (0, .fieldref 2 23), (0, .nameAndType 24 21), (0, u "closed"), (0, .fieldref 2 26), (0, .nameAndType 27 28), (0, u "groups"), (0, u "[I"), (0, .fieldref 2 30), (0, .nameAndType 31 32), (0, u "prices"), (0, u "[Ljava/math/BigDecimal;"), (0, .fieldref 2 34), (0, .nameAndType 35 36), (0, u "entries"), (0, u "I"), (0, .fieldref 2 38), (0, .nameAndType 39 36), (0, u "oldest"), (4, .methodref 2 45), (0, .nameAndType 46 11), (0, u "makeRoomForOne"), (0, .fieldref 2 48), (0, .nameAndType 49 50), (0, u "quantity"), (0, u "J"), (21, u "add"), (7, .class_ 82), (1, u "com/example/margrave/margrave/engine/Holding$Taken"), (30, .class_ 115), (1, u "com/example/margrave/margrave/engine/Holding$1"), (19, u "(Ljava/math/BigDecimal;J)V"), (0, u "lots"), (0, u "()J")] 14

def k18m0 : Method := { name := "<init>", desc := "()V", sig := { parameters := [], returnType := none }, accessFlags := 0, code := none }
def k18c1 : Code := { maxStack := 2, maxLocals := 2, code := prog_78_method_2_code, exceptionTable := #[], attributes := #[] }
def k18m1 : Method := { name := "<init>", desc := "(Z)V", sig := { parameters := [.boolean], returnType := none }, accessFlags := 0, code := some k18c1 }
def k18c2 : Code := { maxStack := 6, maxLocals := 4, code := prog_78_method_3_code, exceptionTable := #[], attributes := #[] }
def k18m2 : Method := { name := "add", desc := "(Ljava/math/BigDecimal;J)V", sig := { parameters := [(.object "java/math/BigDecimal"), .long], returnType := none }, accessFlags := 0, code := some k18c2 }
def k18c3 : Code := { maxStack := 2, maxLocals := 1, code := prog_78_method_5_code, exceptionTable := #[], attributes := #[] }
def k18m3 : Method := { name := "lots", desc := "()J", sig := { parameters := [], returnType := some .long }, accessFlags := 0, code := some k18c3 }
def k18c4 : Code := { maxStack := 2, maxLocals := 1, code := prog_78_method_14_code, exceptionTable := #[], attributes := #[] }
def k18m4 : Method := { name := "makeRoomForOne", desc := "()V", sig := { parameters := [], returnType := none }, accessFlags := 2, code := some k18c4 }
/-- com/example/margrave/margrave/engine/Holding -/
def k18 : Class := { plain "com/example/margrave/margrave/engine/Holding" (some 0) with
  accessFlags := 32
  interfaces := #[]
  cf := some (fileOf pool18 2 #[.nestMembers #[113, 80]] #[{ accessFlags := 0, nameIndex := 5, descriptorIndex := 11, attributes := #[] }, { accessFlags := 0, nameIndex := 5, descriptorIndex := 6, attributes := #[] }, { accessFlags := 0, nameIndex := 72, descriptorIndex := 135, attributes := #[] }, { accessFlags := 0, nameIndex := 136, descriptorIndex := 137, attributes := #[] }, { accessFlags := 2, nameIndex := 46, descriptorIndex := 11, attributes := #[] }] 32 8 #[] #[{ accessFlags := 2, nameIndex := 31, descriptorIndex := 32, attributes := #[] }, { accessFlags := 2, nameIndex := 27, descriptorIndex := 28, attributes := #[] }, { accessFlags := 2, nameIndex := 14, descriptorIndex := 15, attributes := #[] }, { accessFlags := 2, nameIndex := 39, descriptorIndex := 36, attributes := #[] }, { accessFlags := 2, nameIndex := 35, descriptorIndex := 36, attributes := #[] }, { accessFlags := 2, nameIndex := 49, descriptorIndex := 50, attributes := #[] }, { accessFlags := 2, nameIndex := 24, descriptorIndex := 21, attributes := #[] }])
  fields := #[{ name := "prices", type := (.array (.object "java/math/BigDecimal")), accessFlags := 2, slot := 0, constantValue := 0 }, { name := "groups", type := (.array .int), accessFlags := 2, slot := 1, constantValue := 0 }, { name := "quantities", type := (.array .long), accessFlags := 2, slot := 2, constantValue := 0 }, { name := "oldest", type := .int, accessFlags := 2, slot := 3, constantValue := 0 }, { name := "entries", type := .int, accessFlags := 2, slot := 4, constantValue := 0 }, { name := "quantity", type := .long, accessFlags := 2, slot := 5, constantValue := 0 }, { name := "closed", type := (.object "java/math/BigDecimal"), accessFlags := 2, slot := 6, constantValue := 0 }]
  methods := #[k18m0, k18m1, k18m2, k18m3, k18m4]
  instanceTypes := #[(.array (.object "java/math/BigDecimal")), (.array .int), (.array .long), .int, .int, .long, (.object "java/math/BigDecimal")]
  staticTypes := #[]
  resolved := Array.replicate 152 none
  statics := none }

def pool19 : Array CpInfo := pool [(2, .class_ 4), (1, u "java/lang/Object"), (0, u "<init>"), (0, u "()V"), (1, .class_ 10), (1, u "java/lang/Number"), (2, .class_ 14), (0, u "java/io/Serializable"), (0, u "serialVersionUID"), (0, u "J")] 20

def k19m0 : Method := { name := "<init>", desc := "()V", sig := { parameters := [], returnType := none }, accessFlags := 1, code := none }
/-- java/lang/Number -/
def k19 : Class := { plain "java/lang/Number" (some 0) with
  accessFlags := 1057
  interfaces := #[7]
  cf := some (fileOf pool19 8 #[] #[{ accessFlags := 1, nameIndex := 5, descriptorIndex := 6, attributes := #[] }] 1057 2 #[13] #[{ accessFlags := 26, nameIndex := 15, descriptorIndex := 16, attributes := #[] }])
  fields := #[{ name := "serialVersionUID", type := .long, accessFlags := 26, slot := 0, constantValue := 0 }]
  methods := #[k19m0]
  instanceTypes := #[]
  staticTypes := #[.long]
  resolved := Array.replicate 37 none
  statics := none }

def pool20 : Array CpInfo := pool [(1, .class_ 2), (0, u "java/lang/Comparable"), (0, .class_ 4), (0, u "java/lang/Object")] 7

/-- java/lang/Comparable -/
def k20 : Class := { plain "java/lang/Comparable" (some 0) with
  accessFlags := 1537
  interfaces := #[]
  cf := some (fileOf pool20 1 #[] #[] 1537 3 #[] #[])
  fields := #[]
  methods := #[]
  instanceTypes := #[]
  staticTypes := #[]
  resolved := Array.replicate 12 none
  statics := none }

def pool21 : Array CpInfo := pool [(3, .class_ 4), (0, u "java/math/BigDecimal"), (7, .class_ 14), (1, u "java/lang/Number"), (4, u "scale"), (0, u "I"), (2, u "precision"), (2, u "intCompact"), (0, u "J"), (2, u "intVal"), (0, u "Ljava/math/BigInteger;"), (65, u "LONG_TEN_POWERS_TABLE"), (0, u "[J"), (88, u "ZERO"), (2, u "INFLATED_BIGINT"), (15, u "TWO"), (41, u "ZERO_THROUGH_TEN"), (0, u "[Ljava/math/BigDecimal;"), (2, u "ZERO_SCALED_BY"), (60, u "$assertionsDisabled"), (0, u "Z"), (163, u "ONE_TENTH"), (0, u "Ljava/math/BigDecimal;"), (5, u "TEN"), (14, .class_ 502), (1, u "java/math/BigDecimal$1"), (15, u "ONE_HALF"), (16, u "ONE"), (107, u "stringCache"), (0, u "Ljava/lang/String;"), (52, .class_ 699), (1, u "java/math/BigDecimal$LongOverflow"), (8, u "FLOAT_10_POW"), (0, u "[F"), (39, u "DOUBLE_10_POW"), (0, u "[D"), (19, .class_ 772), (1, u "java/math/BigDecimal$StringBuilderHelper"), (35, u "BIG_TEN_POWERS_TABLE_MAX"), (2, u "BIG_TEN_POWERS_TABLE"), (0, u "[Ljava/math/BigInteger;"), (14, u "THRESHOLDS_TABLE"), (23, .class_ 853), (1, u "java/math/BigDecimal$UnsafeHolder"), (214, u "LONGLONG_TEN_POWERS_TABLE"), (0, u "[[J"), (112, u "BIG_TEN_POWERS_TABLE_INITLEN"), (113, .class_ 1297), (0, u "java/lang/Comparable"), (0, u "L"), (0, u "D"), (1, u "P_F"), (1, u "Q_MIN_F"), (1, u "Q_MAX_F"), (1, u "P_D"), (1, u "Q_MIN_D"), (1, u "Q_MAX_D"), (1, u "INFLATED"), (0, u "MAX_COMPACT_DIGITS"), (1, u "serialVersionUID"), (2, u "HALF_LONG_MAX_VALUE"), (0, u "HALF_LONG_MIN_VALUE"), (0, u "ROUND_UP"), (6, u "ROUND_DOWN"), (1, u "ROUND_CEILING"), (1, u "ROUND_FLOOR"), (1, u "ROUND_HALF_UP"), (1, u "ROUND_HALF_DOWN"), (1, u "ROUND_HALF_EVEN"), (1, u "ROUND_UNNECESSARY"), (1, u "DIV_NUM_BASE")] 294

/-- java/math/BigDecimal -/
def k21 : Class := { plain "java/math/BigDecimal" (some 19) with
  accessFlags := 33
  interfaces := #[20]
  cf := some (fileOf pool21 3 #[.nestMembers #[500, 851, 770, 697]] #[] 33 12 #[1296] #[{ accessFlags := 26, nameIndex := 1298, descriptorIndex := 1299, attributes := #[] }, { accessFlags := 26, nameIndex := 1301, descriptorIndex := 20, attributes := #[] }, { accessFlags := 26, nameIndex := 1303, descriptorIndex := 20, attributes := #[] }, { accessFlags := 26, nameIndex := 1305, descriptorIndex := 20, attributes := #[] }, { accessFlags := 26, nameIndex := 1307, descriptorIndex := 20, attributes := #[] }, { accessFlags := 26, nameIndex := 1309, descriptorIndex := 20, attributes := #[] }, { accessFlags := 26, nameIndex := 1311, descriptorIndex := 20, attributes := #[] }, { accessFlags := 18, nameIndex := 30, descriptorIndex := 31, attributes := #[] }, { accessFlags := 18, nameIndex := 19, descriptorIndex := 20, attributes := #[] }, { accessFlags := 130, nameIndex := 23, descriptorIndex := 20, attributes := #[] }, { accessFlags := 130, nameIndex := 643, descriptorIndex := 644, attributes := #[] }, { accessFlags := 24, nameIndex := 1313, descriptorIndex := 27, attributes := #[] }, { accessFlags := 26, nameIndex := 190, descriptorIndex := 31, attributes := #[] }, { accessFlags := 146, nameIndex := 26, descriptorIndex := 27, attributes := #[] }, { accessFlags := 26, nameIndex := 1314, descriptorIndex := 20, attributes := #[] }, { accessFlags := 26, nameIndex := 1316, descriptorIndex := 27, attributes := #[] }, { accessFlags := 26, nameIndex := 248, descriptorIndex := 249, attributes := #[] }, { accessFlags := 26, nameIndex := 252, descriptorIndex := 249, attributes := #[] }, { accessFlags := 26, nameIndex := 1319, descriptorIndex := 27, attributes := #[] }, { accessFlags := 26, nameIndex := 1320, descriptorIndex := 27, attributes := #[] }, { accessFlags := 25, nameIndex := 187, descriptorIndex := 479, attributes := #[] }, { accessFlags := 25, nameIndex := 535, descriptorIndex := 479, attributes := #[] }, { accessFlags := 25, nameIndex := 206, descriptorIndex := 479, attributes := #[] }, { accessFlags := 25, nameIndex := 485, descriptorIndex := 479, attributes := #[] }, { accessFlags := 26, nameIndex := 478, descriptorIndex := 479, attributes := #[] }, { accessFlags := 26, nameIndex := 518, descriptorIndex := 479, attributes := #[] }, { accessFlags := 25, nameIndex := 1321, descriptorIndex := 20, attributes := #[] }, { accessFlags := 25, nameIndex := 1328, descriptorIndex := 20, attributes := #[] }, { accessFlags := 25, nameIndex := 1330, descriptorIndex := 20, attributes := #[] }, { accessFlags := 25, nameIndex := 1332, descriptorIndex := 20, attributes := #[] }, { accessFlags := 25, nameIndex := 1334, descriptorIndex := 20, attributes := #[] }, { accessFlags := 25, nameIndex := 1336, descriptorIndex := 20, attributes := #[] }, { accessFlags := 25, nameIndex := 1338, descriptorIndex := 20, attributes := #[] }, { accessFlags := 25, nameIndex := 1340, descriptorIndex := 20, attributes := #[] }, { accessFlags := 26, nameIndex := 749, descriptorIndex := 750, attributes := #[] }, { accessFlags := 26, nameIndex := 708, descriptorIndex := 709, attributes := #[] }, { accessFlags := 26, nameIndex := 97, descriptorIndex := 98, attributes := #[] }, { accessFlags := 74, nameIndex := 811, descriptorIndex := 812, attributes := #[] }, { accessFlags := 26, nameIndex := 1182, descriptorIndex := 20, attributes := #[] }, { accessFlags := 26, nameIndex := 808, descriptorIndex := 20, attributes := #[] }, { accessFlags := 26, nameIndex := 827, descriptorIndex := 98, attributes := #[] }, { accessFlags := 26, nameIndex := 1342, descriptorIndex := 27, attributes := #[] }, { accessFlags := 26, nameIndex := 1068, descriptorIndex := 1069, attributes := #[] }, { accessFlags := 4120, nameIndex := 313, descriptorIndex := 314, attributes := #[] }])
  fields := #[{ name := "L", type := .double, accessFlags := 26, slot := 0, constantValue := 0 }, { name := "P_F", type := .int, accessFlags := 26, slot := 1, constantValue := 0 }, { name := "Q_MIN_F", type := .int, accessFlags := 26, slot := 2, constantValue := 0 }, { name := "Q_MAX_F", type := .int, accessFlags := 26, slot := 3, constantValue := 0 }, { name := "P_D", type := .int, accessFlags := 26, slot := 4, constantValue := 0 }, { name := "Q_MIN_D", type := .int, accessFlags := 26, slot := 5, constantValue := 0 }, { name := "Q_MAX_D", type := .int, accessFlags := 26, slot := 6, constantValue := 0 }, { name := "intVal", type := (.object "java/math/BigInteger"), accessFlags := 18, slot := 0, constantValue := 0 }, { name := "scale", type := .int, accessFlags := 18, slot := 1, constantValue := 0 }, { name := "precision", type := .int, accessFlags := 130, slot := 2, constantValue := 0 }, { name := "stringCache", type := (.object "java/lang/String"), accessFlags := 130, slot := 3, constantValue := 0 }, { name := "INFLATED", type := .long, accessFlags := 24, slot := 7, constantValue := 0 }, { name := "INFLATED_BIGINT", type := (.object "java/math/BigInteger"), accessFlags := 26, slot := 8, constantValue := 0 }, { name := "intCompact", type := .long, accessFlags := 146, slot := 4, constantValue := 0 }, { name := "MAX_COMPACT_DIGITS", type := .int, accessFlags := 26, slot := 9, constantValue := 0 }, { name := "serialVersionUID", type := .long, accessFlags := 26, slot := 10, constantValue := 0 }, { name := "ZERO_THROUGH_TEN", type := (.array (.object "java/math/BigDecimal")), accessFlags := 26, slot := 11, constantValue := 0 }, { name := "ZERO_SCALED_BY", type := (.array (.object "java/math/BigDecimal")), accessFlags := 26, slot := 12, constantValue := 0 }, { name := "HALF_LONG_MAX_VALUE", type := .long, accessFlags := 26, slot := 13, constantValue := 0 }, { name := "HALF_LONG_MIN_VALUE", type := .long, accessFlags := 26, slot := 14, constantValue := 0 }, { name := "ZERO", type := (.object "java/math/BigDecimal"), accessFlags := 25, slot := 15, constantValue := 0 }, { name := "ONE", type := (.object "java/math/BigDecimal"), accessFlags := 25, slot := 16, constantValue := 0 }, { name := "TWO", type := (.object "java/math/BigDecimal"), accessFlags := 25, slot := 17, constantValue := 0 }, { name := "TEN", type := (.object "java/math/BigDecimal"), accessFlags := 25, slot := 18, constantValue := 0 }, { name := "ONE_TENTH", type := (.object "java/math/BigDecimal"), accessFlags := 26, slot := 19, constantValue := 0 }, { name := "ONE_HALF", type := (.object "java/math/BigDecimal"), accessFlags := 26, slot := 20, constantValue := 0 }, { name := "ROUND_UP", type := .int, accessFlags := 25, slot := 21, constantValue := 0 }, { name := "ROUND_DOWN", type := .int, accessFlags := 25, slot := 22, constantValue := 0 }, { name := "ROUND_CEILING", type := .int, accessFlags := 25, slot := 23, constantValue := 0 }, { name := "ROUND_FLOOR", type := .int, accessFlags := 25, slot := 24, constantValue := 0 }, { name := "ROUND_HALF_UP", type := .int, accessFlags := 25, slot := 25, constantValue := 0 }, { name := "ROUND_HALF_DOWN", type := .int, accessFlags := 25, slot := 26, constantValue := 0 }, { name := "ROUND_HALF_EVEN", type := .int, accessFlags := 25, slot := 27, constantValue := 0 }, { name := "ROUND_UNNECESSARY", type := .int, accessFlags := 25, slot := 28, constantValue := 0 }, { name := "DOUBLE_10_POW", type := (.array .double), accessFlags := 26, slot := 29, constantValue := 0 }, { name := "FLOAT_10_POW", type := (.array .float), accessFlags := 26, slot := 30, constantValue := 0 }, { name := "LONG_TEN_POWERS_TABLE", type := (.array .long), accessFlags := 26, slot := 31, constantValue := 0 }, { name := "BIG_TEN_POWERS_TABLE", type := (.array (.object "java/math/BigInteger")), accessFlags := 74, slot := 32, constantValue := 0 }, { name := "BIG_TEN_POWERS_TABLE_INITLEN", type := .int, accessFlags := 26, slot := 33, constantValue := 0 }, { name := "BIG_TEN_POWERS_TABLE_MAX", type := .int, accessFlags := 26, slot := 34, constantValue := 0 }, { name := "THRESHOLDS_TABLE", type := (.array .long), accessFlags := 26, slot := 35, constantValue := 0 }, { name := "DIV_NUM_BASE", type := .long, accessFlags := 26, slot := 36, constantValue := 0 }, { name := "LONGLONG_TEN_POWERS_TABLE", type := (.array (.array .long)), accessFlags := 26, slot := 37, constantValue := 0 }, { name := "$assertionsDisabled", type := .boolean, accessFlags := 4120, slot := 38, constantValue := 0 }]
  methods := #[]
  instanceTypes := #[(.object "java/math/BigInteger"), .int, .int, (.object "java/lang/String"), .long]
  staticTypes := #[.double, .int, .int, .int, .int, .int, .int, .long, (.object "java/math/BigInteger"), .int, .long, (.array (.object "java/math/BigDecimal")), (.array (.object "java/math/BigDecimal")), .long, .long, (.object "java/math/BigDecimal"), (.object "java/math/BigDecimal"), (.object "java/math/BigDecimal"), (.object "java/math/BigDecimal"), (.object "java/math/BigDecimal"), (.object "java/math/BigDecimal"), .int, .int, .int, .int, .int, .int, .int, .int, (.array .double), (.array .float), (.array .long), (.array (.object "java/math/BigInteger")), .int, .int, (.array .long), .long, (.array (.array .long)), .boolean]
  resolved := Array.replicate 1637 none
  statics := some 1 }

def pool22 : Array CpInfo := pool [(4, .class_ 6), (1, u "java/lang/Number"), (16, .class_ 25), (1, u "java/math/BigInteger"), (0, u "ZERO"), (0, u "Ljava/math/BigInteger;"), (2, u "mag"), (0, u "[I"), (2, u "signum"), (0, u "I"), (59, u "bitsPerDigit"), (0, u "[J"), (9, u "digitsPerInt"), (12, u "intRadix"), (60, u "SMALL_PRIME_PRODUCT"), (79, u "ONE"), (6, u "TWO"), (43, u "$assertionsDisabled"), (0, u "Z"), (36, u "posConst"), (0, u "[Ljava/math/BigInteger;"), (4, u "negConst"), (116, .class_ 474), (1, u "java/math/BigInteger$RecursiveOp"), (106, u "NEGATIVE_ONE"), (91, u "bnExpModThreshTable"), (72, u "lowestSetBitPlusTwo"), (2, u "bitLengthPlusOne"), (2, u "bitCountPlusOne"), (6, u "LOG_TWO"), (0, u "D"), (2, u "logCache"), (0, u "[D"), (13, u "NUM_ZEROS"), (2, u "ZEROS"), (0, u "Ljava/lang/String;"), (9, u "longRadix"), (5, u "digitsPerLong"), (22, u "powerCache"), (0, u "[[Ljava/math/BigInteger;"), (45, u "firstNonzeroIntNumPlusTwo"), (38, .class_ 909), (1, u "java/math/BigInteger$UnsafeHolder"), (141, u "TEN"), (106, u "serialPersistentFields"), (0, u "[Ljava/io/ObjectStreamField;"), (0, .class_ 1161), (0, u "java/lang/Comparable"), (0, u "LONG_MASK"), (0, u "J"), (1, u "MAX_MAG_LENGTH"), (0, u "PRIME_SEARCH_BIT_LENGTH_LIMIT"), (1, u "KARATSUBA_THRESHOLD"), (1, u "TOOM_COOK_THRESHOLD"), (1, u "KARATSUBA_SQUARE_THRESHOLD"), (1, u "TOOM_COOK_SQUARE_THRESHOLD"), (1, u "BURNIKEL_ZIEGLER_THRESHOLD"), (0, u "BURNIKEL_ZIEGLER_OFFSET"), (1, u "SCHOENHAGE_BASE_CONVERSION_THRESHOLD"), (1, u "MULTIPLY_SQUARE_THRESHOLD"), (0, u "MONTGOMERY_INTRINSIC_THRESHOLD"), (1, u "SMALL_PRIME_THRESHOLD"), (1, u "DEFAULT_PRIME_CERTAINTY"), (1, u "MAX_CONSTANT"), (3, u "serialVersionUID"), (338, .class_ 1532), (0, u "java/math/BigInteger$RecursiveOp$RecursiveSquare"), (0, .class_ 1534), (0, u "java/math/BigInteger$RecursiveOp$RecursiveMultiply")] 7

/-- java/math/BigInteger -/
def k22 : Class := { plain "java/math/BigInteger" (some 19) with
  accessFlags := 33
  interfaces := #[20]
  cf := some (fileOf pool22 23 #[.nestMembers #[907, 472, 1531, 1533]] #[] 33 4 #[1160] #[{ accessFlags := 16, nameIndex := 34, descriptorIndex := 35, attributes := #[] }, { accessFlags := 16, nameIndex := 30, descriptorIndex := 31, attributes := #[] }, { accessFlags := 2, nameIndex := 752, descriptorIndex := 35, attributes := #[] }, { accessFlags := 2, nameIndex := 749, descriptorIndex := 35, attributes := #[] }, { accessFlags := 2, nameIndex := 746, descriptorIndex := 35, attributes := #[] }, { accessFlags := 2, nameIndex := 868, descriptorIndex := 35, attributes := #[] }, { accessFlags := 24, nameIndex := 1162, descriptorIndex := 1163, attributes := #[] }, { accessFlags := 26, nameIndex := 1165, descriptorIndex := 35, attributes := #[] }, { accessFlags := 26, nameIndex := 1166, descriptorIndex := 35, attributes := #[] }, { accessFlags := 26, nameIndex := 1168, descriptorIndex := 35, attributes := #[] }, { accessFlags := 26, nameIndex := 1170, descriptorIndex := 35, attributes := #[] }, { accessFlags := 26, nameIndex := 1172, descriptorIndex := 35, attributes := #[] }, { accessFlags := 26, nameIndex := 1174, descriptorIndex := 35, attributes := #[] }, { accessFlags := 24, nameIndex := 1176, descriptorIndex := 35, attributes := #[] }, { accessFlags := 24, nameIndex := 1177, descriptorIndex := 35, attributes := #[] }, { accessFlags := 26, nameIndex := 1179, descriptorIndex := 35, attributes := #[] }, { accessFlags := 26, nameIndex := 1181, descriptorIndex := 35, attributes := #[] }, { accessFlags := 26, nameIndex := 1182, descriptorIndex := 35, attributes := #[] }, { accessFlags := 10, nameIndex := 95, descriptorIndex := 96, attributes := #[] }, { accessFlags := 26, nameIndex := 1184, descriptorIndex := 35, attributes := #[] }, { accessFlags := 26, nameIndex := 1186, descriptorIndex := 35, attributes := #[] }, { accessFlags := 26, nameIndex := 180, descriptorIndex := 27, attributes := #[] }, { accessFlags := 26, nameIndex := 1188, descriptorIndex := 35, attributes := #[] }, { accessFlags := 26, nameIndex := 349, descriptorIndex := 350, attributes := #[] }, { accessFlags := 26, nameIndex := 355, descriptorIndex := 350, attributes := #[] }, { accessFlags := 74, nameIndex := 821, descriptorIndex := 822, attributes := #[] }, { accessFlags := 26, nameIndex := 763, descriptorIndex := 764, attributes := #[] }, { accessFlags := 26, nameIndex := 759, descriptorIndex := 760, attributes := #[] }, { accessFlags := 25, nameIndex := 26, descriptorIndex := 27, attributes := #[] }, { accessFlags := 25, nameIndex := 260, descriptorIndex := 27, attributes := #[] }, { accessFlags := 25, nameIndex := 267, descriptorIndex := 27, attributes := #[] }, { accessFlags := 26, nameIndex := 581, descriptorIndex := 27, attributes := #[] }, { accessFlags := 25, nameIndex := 1051, descriptorIndex := 27, attributes := #[] }, { accessFlags := 8, nameIndex := 673, descriptorIndex := 31, attributes := #[] }, { accessFlags := 10, nameIndex := 778, descriptorIndex := 35, attributes := #[] }, { accessFlags := 26, nameIndex := 781, descriptorIndex := 782, attributes := #[] }, { accessFlags := 10, nameIndex := 798, descriptorIndex := 31, attributes := #[] }, { accessFlags := 10, nameIndex := 792, descriptorIndex := 350, attributes := #[] }, { accessFlags := 10, nameIndex := 106, descriptorIndex := 31, attributes := #[] }, { accessFlags := 10, nameIndex := 119, descriptorIndex := 31, attributes := #[] }, { accessFlags := 26, nameIndex := 1192, descriptorIndex := 1163, attributes := #[] }, { accessFlags := 26, nameIndex := 1158, descriptorIndex := 1159, attributes := #[] }, { accessFlags := 4120, nameIndex := 311, descriptorIndex := 312, attributes := #[] }])
  fields := #[{ name := "signum", type := .int, accessFlags := 16, slot := 0, constantValue := 0 }, { name := "mag", type := (.array .int), accessFlags := 16, slot := 1, constantValue := 0 }, { name := "bitCountPlusOne", type := .int, accessFlags := 2, slot := 2, constantValue := 0 }, { name := "bitLengthPlusOne", type := .int, accessFlags := 2, slot := 3, constantValue := 0 }, { name := "lowestSetBitPlusTwo", type := .int, accessFlags := 2, slot := 4, constantValue := 0 }, { name := "firstNonzeroIntNumPlusTwo", type := .int, accessFlags := 2, slot := 5, constantValue := 0 }, { name := "LONG_MASK", type := .long, accessFlags := 24, slot := 0, constantValue := 0 }, { name := "MAX_MAG_LENGTH", type := .int, accessFlags := 26, slot := 1, constantValue := 0 }, { name := "PRIME_SEARCH_BIT_LENGTH_LIMIT", type := .int, accessFlags := 26, slot := 2, constantValue := 0 }, { name := "KARATSUBA_THRESHOLD", type := .int, accessFlags := 26, slot := 3, constantValue := 0 }, { name := "TOOM_COOK_THRESHOLD", type := .int, accessFlags := 26, slot := 4, constantValue := 0 }, { name := "KARATSUBA_SQUARE_THRESHOLD", type := .int, accessFlags := 26, slot := 5, constantValue := 0 }, { name := "TOOM_COOK_SQUARE_THRESHOLD", type := .int, accessFlags := 26, slot := 6, constantValue := 0 }, { name := "BURNIKEL_ZIEGLER_THRESHOLD", type := .int, accessFlags := 24, slot := 7, constantValue := 0 }, { name := "BURNIKEL_ZIEGLER_OFFSET", type := .int, accessFlags := 24, slot := 8, constantValue := 0 }, { name := "SCHOENHAGE_BASE_CONVERSION_THRESHOLD", type := .int, accessFlags := 26, slot := 9, constantValue := 0 }, { name := "MULTIPLY_SQUARE_THRESHOLD", type := .int, accessFlags := 26, slot := 10, constantValue := 0 }, { name := "MONTGOMERY_INTRINSIC_THRESHOLD", type := .int, accessFlags := 26, slot := 11, constantValue := 0 }, { name := "bitsPerDigit", type := (.array .long), accessFlags := 10, slot := 12, constantValue := 0 }, { name := "SMALL_PRIME_THRESHOLD", type := .int, accessFlags := 26, slot := 13, constantValue := 0 }, { name := "DEFAULT_PRIME_CERTAINTY", type := .int, accessFlags := 26, slot := 14, constantValue := 0 }, { name := "SMALL_PRIME_PRODUCT", type := (.object "java/math/BigInteger"), accessFlags := 26, slot := 15, constantValue := 0 }, { name := "MAX_CONSTANT", type := .int, accessFlags := 26, slot := 16, constantValue := 0 }, { name := "posConst", type := (.array (.object "java/math/BigInteger")), accessFlags := 26, slot := 17, constantValue := 0 }, { name := "negConst", type := (.array (.object "java/math/BigInteger")), accessFlags := 26, slot := 18, constantValue := 0 }, { name := "powerCache", type := (.array (.array (.object "java/math/BigInteger"))), accessFlags := 74, slot := 19, constantValue := 0 }, { name := "logCache", type := (.array .double), accessFlags := 26, slot := 20, constantValue := 0 }, { name := "LOG_TWO", type := .double, accessFlags := 26, slot := 21, constantValue := 0 }, { name := "ZERO", type := (.object "java/math/BigInteger"), accessFlags := 25, slot := 22, constantValue := 0 }, { name := "ONE", type := (.object "java/math/BigInteger"), accessFlags := 25, slot := 23, constantValue := 0 }, { name := "TWO", type := (.object "java/math/BigInteger"), accessFlags := 25, slot := 24, constantValue := 0 }, { name := "NEGATIVE_ONE", type := (.object "java/math/BigInteger"), accessFlags := 26, slot := 25, constantValue := 0 }, { name := "TEN", type := (.object "java/math/BigInteger"), accessFlags := 25, slot := 26, constantValue := 0 }, { name := "bnExpModThreshTable", type := (.array .int), accessFlags := 8, slot := 27, constantValue := 0 }, { name := "NUM_ZEROS", type := .int, accessFlags := 10, slot := 28, constantValue := 0 }, { name := "ZEROS", type := (.object "java/lang/String"), accessFlags := 26, slot := 29, constantValue := 0 }, { name := "digitsPerLong", type := (.array .int), accessFlags := 10, slot := 30, constantValue := 0 }, { name := "longRadix", type := (.array (.object "java/math/BigInteger")), accessFlags := 10, slot := 31, constantValue := 0 }, { name := "digitsPerInt", type := (.array .int), accessFlags := 10, slot := 32, constantValue := 0 }, { name := "intRadix", type := (.array .int), accessFlags := 10, slot := 33, constantValue := 0 }, { name := "serialVersionUID", type := .long, accessFlags := 26, slot := 34, constantValue := 0 }, { name := "serialPersistentFields", type := (.array (.object "java/io/ObjectStreamField")), accessFlags := 26, slot := 35, constantValue := 0 }, { name := "$assertionsDisabled", type := .boolean, accessFlags := 4120, slot := 36, constantValue := 0 }]
  methods := #[]
  instanceTypes := #[.int, (.array .int), .int, .int, .int, .int]
  staticTypes := #[.long, .int, .int, .int, .int, .int, .int, .int, .int, .int, .int, .int, (.array .long), .int, .int, (.object "java/math/BigInteger"), .int, (.array (.object "java/math/BigInteger")), (.array (.object "java/math/BigInteger")), (.array (.array (.object "java/math/BigInteger"))), (.array .double), .double, (.object "java/math/BigInteger"), (.object "java/math/BigInteger"), (.object "java/math/BigInteger"), (.object "java/math/BigInteger"), (.object "java/math/BigInteger"), (.array .int), .int, (.object "java/lang/String"), (.array .int), (.array (.object "java/math/BigInteger")), (.array .int), (.array .int), .long, (.array (.object "java/io/ObjectStreamField")), .boolean]
  resolved := Array.replicate 1542 none
  statics := some 2 }

/-- the primitive byte -/
def k23 : Class := { plain "byte" none with kind := .primitive 'B', accessFlags := 0x411 }
/-- [B -/
def k24 : Class := { plain "[B" (some 0) with kind := .array 23 .byte, interfaces := #[6, 7], accessFlags := 1041 }

/-- the primitive int -/
def k25 : Class := { plain "int" none with kind := .primitive 'I', accessFlags := 0x411 }
/-- [I -/
def k26 : Class := { plain "[I" (some 0) with kind := .array 25 .int, interfaces := #[6, 7], accessFlags := 1041 }

/-- the primitive long -/
def k27 : Class := { plain "long" none with kind := .primitive 'J', accessFlags := 0x411 }
/-- [J -/
def k28 : Class := { plain "[J" (some 0) with kind := .array 27 .long, interfaces := #[6, 7], accessFlags := 1041 }

/-- [Lcom/example/margrave/margrave/engine/Holding; -/
def k29 : Class := { plain "[Lcom/example/margrave/margrave/engine/Holding;" (some 0) with kind := .array 18 (.object "com/example/margrave/margrave/engine/Holding"), interfaces := #[6, 7], accessFlags := 1041 }

/-- [Ljava/lang/Object; -/
def k30 : Class := { plain "[Ljava/lang/Object;" (some 0) with kind := .array 0 (.object "java/lang/Object"), interfaces := #[6, 7], accessFlags := 1041 }

/-- [Ljava/math/BigDecimal; -/
def k31 : Class := { plain "[Ljava/math/BigDecimal;" (some 0) with kind := .array 21 (.object "java/math/BigDecimal"), interfaces := #[6, 7], accessFlags := 1041 }

def heap : Heap := #[{ cls := 16, slots := #[.long 0, .int 0, .ref 6, .ref 7], vm := .statics 16 },
  { cls := 21, slots := #[.double 0, .int 0, .int 0, .int 0, .int 0, .int 0, .int 0, .long 0, .null, .int 0, .long 0, .null, .null, .long 0, .long 0, .ref 5, .null, .null, .null, .null, .null, .int 0, .int 0, .int 0, .int 0, .int 0, .int 0, .int 0, .int 0, .null, .null, .null, .null, .int 0, .int 0, .null, .long 0, .null, .int 0], vm := .statics 21 },
  { cls := 22, slots := #[.long 0, .int 0, .int 0, .int 0, .int 0, .int 0, .int 0, .int 0, .int 0, .int 0, .int 0, .int 0, .null, .int 0, .int 0, .null, .int 0, .null, .null, .null, .null, .double 0, .ref 4, .null, .null, .null, .null, .null, .int 0, .null, .null, .null, .null, .null, .long 0, .null, .int 0], vm := .statics 22 },
  { cls := 26, slots := #[], vm := .none },
  { cls := 22, slots := #[.int 0, .ref 3, .int 0, .int 0, .int 0, .int 0], vm := .none },
  { cls := 21, slots := #[.ref 4, .int 0, .int 0, .null, .long 0], vm := .none },
  { cls := 30, slots := #[], vm := .none },
  { cls := 30, slots := #[], vm := .none }]
def classes : Array Class := #[k0, k1, k2, k3, k4, k5, k6, k7, k8, k9, k10, k11, k12, k13, k14, k15, k16, k17, k18, k19, k20, k21, k22, k23, k24, k25, k26, k27, k28, k29, k30, k31]
def interned : List (Array UInt16 × Addr) := []
def slotsUsed : Nat := 91
def theMethod : MethodId := ⟨1, 1⟩
def args0 : Array Value := #[.int 5, .int 7, .long 9, .long 11, .long 13, .int 3]
def aboutOver (below : List Frame) : State where
  vm := { classes := classes, interned := interned.toArray }
  heap := heap
  slotsUsed := slotsUsed
  threads := #[{ frames := .invoking theMethod args0 :: below }]
def below0 : List Frame := [.native { method := ⟨0, 0⟩, args := #[] }]
def about1 : State := aboutOver below0
def p0 : Program := .bare "" "" ""
def e0 : Env := launch0.env 0 0 0
theorem w_frames : about1.frames = Frame.invoking theMethod args0 :: below0 := rfl
set_option maxRecDepth 65536 in
theorem w_args : argsFit about1.vm theMethod args0 = true := by decide +kernel
set_option maxRecDepth 65536 in
theorem w_heap : heapFits about1 = true := by decide +kernel
set_option maxRecDepth 65536 in
theorem w_runnable : about1.curStatus? = some .runnable := by decide +kernel
set_option maxRecDepth 65536 in
theorem w_alone : about1.alone = true := by decide +kernel
set_option maxRecDepth 65536 in
theorem w_named : about1.methodNamed? x = some theMethod := by decide +kernel
set_option maxRecDepth 65536 in
theorem w_hears : about1.hears theMethod below0 = true := by decide +kernel
set_option maxRecDepth 65536 in
theorem w_ripe : about1.ripe theMethod args0 below0 = true := by decide +kernel
theorem w_running : about1.status = .running := rfl
set_option maxRecDepth 65536 in
theorem w_room : about1.hasRoom e0.platform room_1 = true :=
  launch0.hasRoom_least _ room_1 (by decide +kernel) (by decide +kernel) (by decide +kernel) (by decide +kernel) (by decide +kernel) (by decide +kernel)
theorem allAtoms_all (ts : List Jvm.Cond) (a : Array Jvm.Value) (st : Jvm.State) : (allAtoms ts).before a st = ts.all (fun c => c.before a st) := by
  induction ts with
  | nil => rfl
  | cons c t ih =>
    show (Jvm.Cond.and c (allAtoms t)).before a st = _
    rw [Jvm.Cond.before_and, ih, List.all_cons]
def words1 : List Jvm.Cond := Jvm.Cond.code x code maxLocals ret :: tables_1
/-- a 'code' word, met by the world's own term for the bytes: nothing is compared byte by byte -/
theorem code_word {y : MethodName} {bytes : ByteArray} {mx : Nat} {rt : Option FieldType} {a : Array Value} {s : State} {m : MethodId} {meth : Method} {c : Code} (h1 : s.methodNamed? y = some m) (h2 : s.vm.method? m = some meth) (h3 : meth.code = some c) (h4 : c.code = bytes)
    (h5 : (c.maxLocals == mx && c.exceptionTable.isEmpty && decide (c.maxStack ≤ mostOperands) && decide (meth.sig.returnType = rt) && !meth.locks && decide (parseMethodDescriptor y.desc = some meth.sig)) = true) : (Jvm.Cond.code y bytes mx rt).before a s = true := by
  simp only [Bool.and_eq_true, beq_iff_eq, Bool.not_eq_true', decide_eq_true_eq] at h5
  obtain ⟨⟨⟨⟨⟨g1, g2⟩, g3⟩, g4⟩, g5⟩, g6⟩ := h5
  simp [Cond.before, Cond.holds, Cond.value, h1, h2, h3, h4, g1, g2, g3, g4, g5, g6]
def isCode : Jvm.Cond → Bool
  | .code _ _ _ _ => true
  | _ => false
theorem all_split {L : List Jvm.Cond} {P : Jvm.Cond → Bool} (h1 : L.all (fun c => isCode c || P c) = true) (h2 : ∀ c ∈ L.filter isCode, P c = true) : L.all P = true := by
  refine List.all_eq_true.mpr fun c hc => ?_
  have h := List.all_eq_true.mp h1 c hc
  rcases Bool.eq_false_or_eq_true (isCode c) with hi | hi
  · exact h2 c (List.mem_filter.mpr ⟨hc, hi⟩)
  · simpa [hi] using h
set_option maxRecDepth 65536 in
theorem w_c0 : (Jvm.Cond.code x code maxLocals ret).before args0 about1 = true := code_word (m := ⟨1, 1⟩) (meth := k1m1) (c := k1c1) (by decide +kernel) rfl rfl rfl (by decide +kernel)
set_option maxRecDepth 65536 in
theorem w_c1 : (Jvm.Cond.code ({ cls := "com/example/margrave/margrave/engine/Holdings", name := "<init>", desc := "(I)V" } : Jvm.MethodName) prog_82_method_1_code (2 : Nat) (Option.none : Option Jvm.ClassFile.FieldType)).before args0 about1 = true := code_word (m := ⟨2, 0⟩) (meth := k2m0) (c := k2c0) (by decide +kernel) rfl rfl rfl (by decide +kernel)
set_option maxRecDepth 65536 in
theorem w_c2 : (Jvm.Cond.code ({ cls := "com/example/margrave/margrave/engine/Holdings", name := "<init>", desc := "(ILcom/example/margrave/margrave/engine/LotGroups;Ljava/util/function/LongBinaryOperator;)V" } : Jvm.MethodName) prog_82_method_3_code (4 : Nat) (Option.none : Option Jvm.ClassFile.FieldType)).before args0 about1 = true := code_word (m := ⟨2, 1⟩) (meth := k2m1) (c := k2c1) (by decide +kernel) rfl rfl rfl (by decide +kernel)
set_option maxRecDepth 65536 in
theorem w_c3 : (Jvm.Cond.code ({ cls := "java/lang/Object", name := "<init>", desc := "()V" } : Jvm.MethodName) object_method_1_code (1 : Nat) (Option.none : Option Jvm.ClassFile.FieldType)).before args0 about1 = true := code_word (m := ⟨0, 0⟩) (meth := k0m0) (c := k0c0) (by decide +kernel) rfl rfl rfl (by decide +kernel)
set_option maxRecDepth 65536 in
theorem w_c4 : (Jvm.Cond.code ({ cls := "com/example/margrave/margrave/engine/Holdings$Numbering", name := "<init>", desc := "()V" } : Jvm.MethodName) prog_83_method_1_code (1 : Nat) (Option.none : Option Jvm.ClassFile.FieldType)).before args0 about1 = true := code_word (m := ⟨3, 0⟩) (meth := k3m0) (c := k3c0) (by decide +kernel) rfl rfl rfl (by decide +kernel)
set_option maxRecDepth 65536 in
theorem w_c5 : (Jvm.Cond.code ({ cls := "java/util/HashMap", name := "<init>", desc := "()V" } : Jvm.MethodName) jdk_69_method_7_code (1 : Nat) (Option.none : Option Jvm.ClassFile.FieldType)).before args0 about1 = true := code_word (m := ⟨8, 0⟩) (meth := k8m0) (c := k8c0) (by decide +kernel) rfl rfl rfl (by decide +kernel)
set_option maxRecDepth 65536 in
theorem w_c6 : (Jvm.Cond.code ({ cls := "java/util/AbstractMap", name := "<init>", desc := "()V" } : Jvm.MethodName) jdk_71_method_1_code (1 : Nat) (Option.none : Option Jvm.ClassFile.FieldType)).before args0 about1 = true := code_word (m := ⟨5, 0⟩) (meth := k5m0) (c := k5c0) (by decide +kernel) rfl rfl rfl (by decide +kernel)
set_option maxRecDepth 65536 in
theorem w_c7 : (Jvm.Cond.code ({ cls := "java/util/ArrayList", name := "<init>", desc := "()V" } : Jvm.MethodName) jdk_38_method_2_code (1 : Nat) (Option.none : Option Jvm.ClassFile.FieldType)).before args0 about1 = true := code_word (m := ⟨16, 0⟩) (meth := k16m0) (c := k16c0) (by decide +kernel) rfl rfl rfl (by decide +kernel)
set_option maxRecDepth 65536 in
theorem w_c8 : (Jvm.Cond.code ({ cls := "java/util/AbstractList", name := "<init>", desc := "()V" } : Jvm.MethodName) jdk_39_method_1_code (1 : Nat) (Option.none : Option Jvm.ClassFile.FieldType)).before args0 about1 = true := code_word (m := ⟨14, 0⟩) (meth := k14m0) (c := k14c0) (by decide +kernel) rfl rfl rfl (by decide +kernel)
set_option maxRecDepth 65536 in
theorem w_c9 : (Jvm.Cond.code ({ cls := "java/util/AbstractCollection", name := "<init>", desc := "()V" } : Jvm.MethodName) jdk_22_method_1_code (1 : Nat) (Option.none : Option Jvm.ClassFile.FieldType)).before args0 about1 = true := code_word (m := ⟨11, 0⟩) (meth := k11m0) (c := k11c0) (by decide +kernel) rfl rfl rfl (by decide +kernel)
set_option maxRecDepth 65536 in
theorem w_c10 : (Jvm.Cond.code ({ cls := "com/example/margrave/margrave/engine/Holdings", name := "makeRoom", desc := "(I)V" } : Jvm.MethodName) prog_82_method_50_code (3 : Nat) (Option.none : Option Jvm.ClassFile.FieldType)).before args0 about1 = true := code_word (m := ⟨2, 9⟩) (meth := k2m9) (c := k2c9) (by decide +kernel) rfl rfl rfl (by decide +kernel)
set_option maxRecDepth 65536 in
theorem w_c11 : (Jvm.Cond.code ({ cls := "java/lang/Math", name := "max", desc := "(II)I" } : Jvm.MethodName) jdk_29_method_65_code (2 : Nat) (Option.some Jvm.ClassFile.FieldType.int)).before args0 about1 = true := code_word (m := ⟨17, 1⟩) (meth := k17m1) (c := k17c1) (by decide +kernel) rfl rfl rfl (by decide +kernel)
set_option maxRecDepth 65536 in
theorem w_c12 : (Jvm.Cond.code ({ cls := "com/example/margrave/margrave/engine/Holdings", name := "open", desc := "(ILjava/math/BigDecimal;Ljava/math/BigDecimal;JI)V" } : Jvm.MethodName) prog_82_method_12_code (8 : Nat) (Option.none : Option Jvm.ClassFile.FieldType)).before args0 about1 = true := code_word (m := ⟨2, 3⟩) (meth := k2m3) (c := k2c3) (by decide +kernel) rfl rfl rfl (by decide +kernel)
set_option maxRecDepth 65536 in
theorem w_c13 : (Jvm.Cond.code ({ cls := "com/example/margrave/margrave/engine/Holdings", name := "traded", desc := "(ILjava/math/BigDecimal;)Lcom/example/margrave/margrave/engine/Holding;" } : Jvm.MethodName) prog_82_method_17_code (6 : Nat) (Option.some (Jvm.ClassFile.FieldType.object "com/example/margrave/margrave/engine/Holding"))).before args0 about1 = true := code_word (m := ⟨2, 4⟩) (meth := k2m4) (c := k2c4) (by decide +kernel) rfl rfl rfl (by decide +kernel)
set_option maxRecDepth 65536 in
theorem w_c14 : (Jvm.Cond.code ({ cls := "com/example/margrave/margrave/engine/Holdings", name := "entry", desc := "(I)Lcom/example/margrave/margrave/engine/Holding;" } : Jvm.MethodName) prog_82_method_49_code (2 : Nat) (Option.some (Jvm.ClassFile.FieldType.object "com/example/margrave/margrave/engine/Holding"))).before args0 about1 = true := code_word (m := ⟨2, 8⟩) (meth := k2m8) (c := k2c8) (by decide +kernel) rfl rfl rfl (by decide +kernel)
set_option maxRecDepth 65536 in
theorem w_c15 : (Jvm.Cond.code ({ cls := "com/example/margrave/margrave/engine/Holding", name := "<init>", desc := "(Z)V" } : Jvm.MethodName) prog_78_method_2_code (2 : Nat) (Option.none : Option Jvm.ClassFile.FieldType)).before args0 about1 = true := code_word (m := ⟨18, 1⟩) (meth := k18m1) (c := k18c1) (by decide +kernel) rfl rfl rfl (by decide +kernel)
set_option maxRecDepth 65536 in
theorem w_c16 : (Jvm.Cond.code ({ cls := "com/example/margrave/margrave/engine/Holding", name := "add", desc := "(Ljava/math/BigDecimal;J)V" } : Jvm.MethodName) prog_78_method_3_code (4 : Nat) (Option.none : Option Jvm.ClassFile.FieldType)).before args0 about1 = true := code_word (m := ⟨18, 2⟩) (meth := k18m2) (c := k18c2) (by decide +kernel) rfl rfl rfl (by decide +kernel)
set_option maxRecDepth 65536 in
theorem w_c17 : (Jvm.Cond.code ({ cls := "com/example/margrave/margrave/engine/Holding", name := "makeRoomForOne", desc := "()V" } : Jvm.MethodName) prog_78_method_14_code (1 : Nat) (Option.none : Option Jvm.ClassFile.FieldType)).before args0 about1 = true := code_word (m := ⟨18, 4⟩) (meth := k18m4) (c := k18c4) (by decide +kernel) rfl rfl rfl (by decide +kernel)
set_option maxRecDepth 65536 in
theorem w_c18 : (Jvm.Cond.code ({ cls := "com/example/margrave/margrave/engine/Holdings", name := "holdFromBefore", desc := "(IILcom/example/margrave/margrave/OpeningTrade;J)V" } : Jvm.MethodName) prog_82_method_10_code (6 : Nat) (Option.none : Option Jvm.ClassFile.FieldType)).before args0 about1 = true := code_word (m := ⟨2, 2⟩) (meth := k2m2) (c := k2c2) (by decide +kernel) rfl rfl rfl (by decide +kernel)
set_option maxRecDepth 65536 in
theorem w_c19 : (Jvm.Cond.code ({ cls := "com/example/margrave/margrave/engine/Holdings", name := "isTraded", desc := "(I)Z" } : Jvm.MethodName) prog_82_method_18_code (2 : Nat) (Option.some Jvm.ClassFile.FieldType.boolean)).before args0 about1 = true := code_word (m := ⟨2, 5⟩) (meth := k2m5) (c := k2c5) (by decide +kernel) rfl rfl rfl (by decide +kernel)
set_option maxRecDepth 65536 in
theorem w_c20 : (Jvm.Cond.code ({ cls := "com/example/margrave/margrave/engine/Holdings", name := "lots", desc := "(I)J" } : Jvm.MethodName) prog_82_method_19_code (3 : Nat) (Option.some Jvm.ClassFile.FieldType.long)).before args0 about1 = true := code_word (m := ⟨2, 6⟩) (meth := k2m6) (c := k2c6) (by decide +kernel) rfl rfl rfl (by decide +kernel)
set_option maxRecDepth 65536 in
theorem w_c21 : (Jvm.Cond.code ({ cls := "com/example/margrave/margrave/engine/Holding", name := "lots", desc := "()J" } : Jvm.MethodName) prog_78_method_5_code (1 : Nat) (Option.some Jvm.ClassFile.FieldType.long)).before args0 about1 = true := code_word (m := ⟨18, 3⟩) (meth := k18m3) (c := k18c3) (by decide +kernel) rfl rfl rfl (by decide +kernel)
set_option maxRecDepth 65536 in
theorem w_c22 : (Jvm.Cond.code ({ cls := "com/example/margrave/margrave/engine/Holdings", name := "release", desc := "(I)V" } : Jvm.MethodName) prog_82_method_47_code (2 : Nat) (Option.none : Option Jvm.ClassFile.FieldType)).before args0 about1 = true := code_word (m := ⟨2, 7⟩) (meth := k2m7) (c := k2c7) (by decide +kernel) rfl rfl rfl (by decide +kernel)
def codes1 : List Jvm.Cond := [Jvm.Cond.code x code maxLocals ret, Jvm.Cond.code ({ cls := "com/example/margrave/margrave/engine/Holdings", name := "<init>", desc := "(I)V" } : Jvm.MethodName) prog_82_method_1_code (2 : Nat) (Option.none : Option Jvm.ClassFile.FieldType), Jvm.Cond.code ({ cls := "com/example/margrave/margrave/engine/Holdings", name := "<init>", desc := "(ILcom/example/margrave/margrave/engine/LotGroups;Ljava/util/function/LongBinaryOperator;)V" } : Jvm.MethodName) prog_82_method_3_code (4 : Nat) (Option.none : Option Jvm.ClassFile.FieldType), Jvm.Cond.code ({ cls := "java/lang/Object", name := "<init>", desc := "()V" } : Jvm.MethodName) object_method_1_code (1 : Nat) (Option.none : Option Jvm.ClassFile.FieldType), Jvm.Cond.code ({ cls := "com/example/margrave/margrave/engine/Holdings$Numbering", name := "<init>", desc := "()V" } : Jvm.MethodName) prog_83_method_1_code (1 : Nat) (Option.none : Option Jvm.ClassFile.FieldType), Jvm.Cond.code ({ cls := "java/util/HashMap", name := "<init>", desc := "()V" } : Jvm.MethodName) jdk_69_method_7_code (1 : Nat) (Option.none : Option Jvm.ClassFile.FieldType), Jvm.Cond.code ({ cls := "java/util/AbstractMap", name := "<init>", desc := "()V" } : Jvm.MethodName) jdk_71_method_1_code (1 : Nat) (Option.none : Option Jvm.ClassFile.FieldType), Jvm.Cond.code ({ cls := "java/util/ArrayList", name := "<init>", desc := "()V" } : Jvm.MethodName) jdk_38_method_2_code (1 : Nat) (Option.none : Option Jvm.ClassFile.FieldType), Jvm.Cond.code ({ cls := "java/util/AbstractList", name := "<init>", desc := "()V" } : Jvm.MethodName) jdk_39_method_1_code (1 : Nat) (Option.none : Option Jvm.ClassFile.FieldType), Jvm.Cond.code ({ cls := "java/util/AbstractCollection", name := "<init>", desc := "()V" } : Jvm.MethodName) jdk_22_method_1_code (1 : Nat) (Option.none : Option Jvm.ClassFile.FieldType), Jvm.Cond.code ({ cls := "com/example/margrave/margrave/engine/Holdings", name := "makeRoom", desc := "(I)V" } : Jvm.MethodName) prog_82_method_50_code (3 : Nat) (Option.none : Option Jvm.ClassFile.FieldType), Jvm.Cond.code ({ cls := "java/lang/Math", name := "max", desc := "(II)I" } : Jvm.MethodName) jdk_29_method_65_code (2 : Nat) (Option.some Jvm.ClassFile.FieldType.int), Jvm.Cond.code ({ cls := "com/example/margrave/margrave/engine/Holdings", name := "open", desc := "(ILjava/math/BigDecimal;Ljava/math/BigDecimal;JI)V" } : Jvm.MethodName) prog_82_method_12_code (8 : Nat) (Option.none : Option Jvm.ClassFile.FieldType), Jvm.Cond.code ({ cls := "com/example/margrave/margrave/engine/Holdings", name := "traded", desc := "(ILjava/math/BigDecimal;)Lcom/example/margrave/margrave/engine/Holding;" } : Jvm.MethodName) prog_82_method_17_code (6 : Nat) (Option.some (Jvm.ClassFile.FieldType.object "com/example/margrave/margrave/engine/Holding")), Jvm.Cond.code ({ cls := "com/example/margrave/margrave/engine/Holdings", name := "entry", desc := "(I)Lcom/example/margrave/margrave/engine/Holding;" } : Jvm.MethodName) prog_82_method_49_code (2 : Nat) (Option.some (Jvm.ClassFile.FieldType.object "com/example/margrave/margrave/engine/Holding")), Jvm.Cond.code ({ cls := "com/example/margrave/margrave/engine/Holding", name := "<init>", desc := "(Z)V" } : Jvm.MethodName) prog_78_method_2_code (2 : Nat) (Option.none : Option Jvm.ClassFile.FieldType), Jvm.Cond.code ({ cls := "com/example/margrave/margrave/engine/Holding", name := "add", desc := "(Ljava/math/BigDecimal;J)V" } : Jvm.MethodName) prog_78_method_3_code (4 : Nat) (Option.none : Option Jvm.ClassFile.FieldType), Jvm.Cond.code ({ cls := "com/example/margrave/margrave/engine/Holding", name := "makeRoomForOne", desc := "()V" } : Jvm.MethodName) prog_78_method_14_code (1 : Nat) (Option.none : Option Jvm.ClassFile.FieldType), Jvm.Cond.code ({ cls := "com/example/margrave/margrave/engine/Holdings", name := "holdFromBefore", desc := "(IILcom/example/margrave/margrave/OpeningTrade;J)V" } : Jvm.MethodName) prog_82_method_10_code (6 : Nat) (Option.none : Option Jvm.ClassFile.FieldType), Jvm.Cond.code ({ cls := "com/example/margrave/margrave/engine/Holdings", name := "isTraded", desc := "(I)Z" } : Jvm.MethodName) prog_82_method_18_code (2 : Nat) (Option.some Jvm.ClassFile.FieldType.boolean), Jvm.Cond.code ({ cls := "com/example/margrave/margrave/engine/Holdings", name := "lots", desc := "(I)J" } : Jvm.MethodName) prog_82_method_19_code (3 : Nat) (Option.some Jvm.ClassFile.FieldType.long), Jvm.Cond.code ({ cls := "com/example/margrave/margrave/engine/Holding", name := "lots", desc := "()J" } : Jvm.MethodName) prog_78_method_5_code (1 : Nat) (Option.some Jvm.ClassFile.FieldType.long), Jvm.Cond.code ({ cls := "com/example/margrave/margrave/engine/Holdings", name := "release", desc := "(I)V" } : Jvm.MethodName) prog_82_method_47_code (2 : Nat) (Option.none : Option Jvm.ClassFile.FieldType)]
set_option maxRecDepth 65536 in
theorem codes_eq : words1.filter isCode = codes1 := rfl
theorem w_codes : ∀ c ∈ words1.filter isCode, c.before args0 about1 = true := by
  rw [codes_eq]
  intro c hc
  simp only [codes1, List.mem_cons, List.not_mem_nil, or_false] at hc
  rcases hc with rfl | rfl | rfl | rfl | rfl | rfl | rfl | rfl | rfl | rfl | rfl | rfl | rfl | rfl | rfl | rfl | rfl | rfl | rfl | rfl | rfl | rfl | rfl
  · exact w_c0
  · exact w_c1
  · exact w_c2
  · exact w_c3
  · exact w_c4
  · exact w_c5
  · exact w_c6
  · exact w_c7
  · exact w_c8
  · exact w_c9
  · exact w_c10
  · exact w_c11
  · exact w_c12
  · exact w_c13
  · exact w_c14
  · exact w_c15
  · exact w_c16
  · exact w_c17
  · exact w_c18
  · exact w_c19
  · exact w_c20
  · exact w_c21
  · exact w_c22
set_option maxRecDepth 65536 in
theorem w_t1 : (words1.take 24).all (fun c => isCode c || c.before args0 about1) = true := by decide +kernel
set_option maxRecDepth 65536 in
theorem w_t2 : ((words1.drop 24).take 24).all (fun c => isCode c || c.before args0 about1) = true := by decide +kernel
set_option maxRecDepth 65536 in
theorem w_t3 : (((words1.drop 24).drop 24).take 24).all (fun c => isCode c || c.before args0 about1) = true := by decide +kernel
set_option maxRecDepth 65536 in
theorem w_t4 : ((((words1.drop 24).drop 24).drop 24).take 24).all (fun c => isCode c || c.before args0 about1) = true := by decide +kernel
set_option maxRecDepth 65536 in
theorem w_t5 : (((((words1.drop 24).drop 24).drop 24).drop 24).take 24).all (fun c => isCode c || c.before args0 about1) = true := by decide +kernel
set_option maxRecDepth 65536 in
theorem w_t6 : ((((((words1.drop 24).drop 24).drop 24).drop 24).drop 24).take 24).all (fun c => isCode c || c.before args0 about1) = true := by decide +kernel
set_option maxRecDepth 65536 in
theorem w_t7 : (((((((words1.drop 24).drop 24).drop 24).drop 24).drop 24).drop 24).take 24).all (fun c => isCode c || c.before args0 about1) = true := by decide +kernel
set_option maxRecDepth 65536 in
theorem w_t8 : (((((((words1.drop 24).drop 24).drop 24).drop 24).drop 24).drop 24).drop 24).all (fun c => isCode c || c.before args0 about1) = true := by decide +kernel
theorem w_tables : (allAtoms (Jvm.Cond.code x code maxLocals ret :: tables_1)).before args0 about1 = true := by
  rw [allAtoms_all]
  show words1.all (fun c => c.before args0 about1) = true
  refine all_split ?_ w_codes
  rw [← List.take_append_drop 24 words1, List.all_append, w_t1, ← List.take_append_drop 24 (words1.drop 24), List.all_append, w_t2, ← List.take_append_drop 24 ((words1.drop 24).drop 24), List.all_append, w_t3, ← List.take_append_drop 24 (((words1.drop 24).drop 24).drop 24), List.all_append, w_t4, ← List.take_append_drop 24 ((((words1.drop 24).drop 24).drop 24).drop 24), List.all_append, w_t5, ← List.take_append_drop 24 (((((words1.drop 24).drop 24).drop 24).drop 24).drop 24), List.all_append, w_t6, ← List.take_append_drop 24 ((((((words1.drop 24).drop 24).drop 24).drop 24).drop 24).drop 24), List.all_append, w_t7, w_t8]
  rfl
set_option maxRecDepth 65536 in
theorem w_rest : rest_1_c.before args0 about1 = true := by decide +kernel
set_option maxRecDepth 65536 in
theorem w_case : (Jvm.Cond.and given_1 narrow_1).before args0 about1 = true := by decide +kernel
theorem w_applies : (headSpec (Jvm.Cond.code x code maxLocals ret :: tables_1) room_1).applies x e0.platform about1 = true :=
  (Spec.applies_iff w_frames).mpr ⟨w_running, w_runnable, w_alone, w_named, w_hears, w_ripe, w_room, w_tables⟩
theorem atStart : AtStart classFile x code maxLocals ret World_1 tables_1 room_1 Calls_1 rest_1 Pre_1 launch0 p0 e0 about1 theMethod args0 below0 :=
  ⟨lists_1, trivial, launch0.admits_env _ _ _, launch0.least_env, fairChoices_fair.cas, fairChoices_fair.clock, w_frames, w_args, w_heap, w_applies, trivial, w_rest, w_case⟩
end start1
theorem witness_1 : WitnessClaimed_1 := ⟨start1.p0, start1.e0, start1.about1, start1.theMethod, start1.args0, start1.below0, start1.atStart⟩
end Jvm.Pilot.@@N@@
