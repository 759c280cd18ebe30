import JvmDerived
import JvmDerived.Pilot.@@N@@Statement
import JvmDerived.Pilot.@@N@@Code
set_option linter.unusedVariables false
set_option linter.unusedSimpArgs false
namespace Jvm.OwnW
open Sem ClassFile Op Lib Jvm.Stand Jvm.Free Jvm.LawKit Jvm.RoadKit
/-- what is left to be shown of a walk that stands at S: it comes back, Q holds, the frame holds -/
def Wp (p : Program) (e : Env) (s : State) (below : List Frame) (Q : Option Value → Heap → List Loc → Prop) (kc ks : Nat) (S : State) : Prop :=
  ∃ s₂ o, Steps p.tables e below S s₂ ∧ s₂.status = .running ∧ Ended s₂ below o ∧ ∃ v L, o = .returned v ∧ Q v s₂.heap L ∧ FrameEnd s o s₂ L kc ks
/-- a method's contract at given arguments and a given heap -/
def Con (l : Launch) (Z : State) (y : MethodName) (bytes : ByteArray) (maxL : Nat) (ret : Option FieldType) (ws : List Jvm.Cond) (rm : Room) (as' : Array Value) (h0 : Heap) (Q : Option Value → Heap → List Loc → Prop) : Prop :=
  MetFree l y (head1 (Jvm.Cond.code y bytes maxL ret :: ws) rm) (fun a U => a = as' ∧ Z.Warmed39 U.vm ∧ U.heap = h0) (fun _ _ _ _ _ => True) (fun _ U o U' => ∃ v L, o = .returned v ∧ Q v U'.heap L ∧ FrameEnd U o U' L rm.cells rm.slots)
/-- an array: its kind, length, and what each place holds -/
def IArr (Z : State) (h : Heap) (a : Addr) (ty : FieldType) (n : Nat) (f : Nat → Value) : Prop := ∃ c : Cell, Arr Z h a c ty ∧ c.slots.size = n ∧ ∀ j, j < n → c.slots[j]? = some (f j)
def upd (f : Nat → Value) (i : Nat) (v : Value) : Nat → Value := fun k => if k = i then v else f k
theorem upd_same (f : Nat → Value) (i : Nat) (v : Value) : upd f i v i = v := by simp [upd]
theorem upd_ne {f : Nat → Value} {i k : Nat} {v : Value} (q : k ≠ i) : upd f i v k = f k := by simp [upd, q]
section W
variable {p : Program} {l : Launch} {e : Env} {R : Room} {s : State} {m : MethodId} {args : Array Value} {below : List Frame} {meth : Method} {c : Code} {T : State} {locs : List Loc} {cells slots : Nat} {Q : Option Value → Heap → List Loc → Prop} {kc ks : Nat} {Z : State} {a0 : Array Value} {h h' : Heap} {pc : Nat} {Ls : Array Slot} {st rest : List Value} {a b : Addr} {n : Nat} {f : Nat → Value} {ty : FieldType}
theorem IArr.lt (A : IArr Z h a ty n f) : a < h.size := by obtain ⟨c, A, -⟩ := A; exact A.lt
theorem IArr.ext (A : IArr Z h a ty n f) (E : Ext h h') : IArr Z h' a ty n f := by obtain ⟨c, A, r⟩ := A; exact ⟨c, A.ext E, r⟩
theorem IArr.other {sl : Nat} {v : Value} (A : IArr Z h b ty n f) (W : Wr h h' a sl v) (q : b ≠ a) : IArr Z h' b ty n f := by obtain ⟨c, A, r⟩ := A; exact ⟨c, A.other W q, r⟩
theorem IArr.keep {ws : List Addr} (A : IArr Z h a ty n f) (K : Keep h h' ws) (q : a ∉ ws) : IArr Z h' a ty n f := by obtain ⟨c, A, r⟩ := A; exact ⟨c, ⟨K.2.1 a c A.1 q, A.2⟩, r⟩
theorem IArr.same {i : Nat} {v : Value} (A : IArr Z h a ty n f) (W : Wr h h' a i v) : IArr Z h' a ty n (upd f i v) := by
  obtain ⟨c, A, S, H⟩ := A
  refine ⟨_, A.same W, by rw [sz_set]; exact S, fun j hj => ?_⟩
  unfold upd Cell.setSlot
  dsimp only
  split
  · rename_i q; subst q
    rw [Array.getElem?_setIfInBounds_self_of_lt (by omega)]
  · rename_i q
    rw [Array.getElem?_setIfInBounds_ne (Ne.symm q)]; exact H j hj
theorem IArr.fresh {cA : ClassId} {z : Int32} {k : Nat} (A : Arr Z h a (newA cA ty z) ty) (q : z.toNatClampNeg = k) : IArr Z h a ty k (fun _ => defaultValue ty) :=
  ⟨_, A, by rw [sz_new]; exact q, fun j hj => by subst q; simp [newA, hj]⟩
theorem IArr.cong {g : Nat → Value} (A : IArr Z h a ty n f) (q : ∀ j, j < n → g j = f j) : IArr Z h a ty n g := by
  obtain ⟨c, A, S, H⟩ := A; exact ⟨c, A, S, fun j hj => by rw [H j hj, q j hj]⟩
theorem nat_of {j : Int32} {i : Nat} (hj : j.toInt = (i : Int)) : ¬ j < 0 ∧ j.toNatClampNeg = i := by
  refine ⟨?_, ?_⟩
  · rw [Int32.lt_iff_toInt_lt, hj]; show ¬ (i : Int) < 0; omega
  · show j.toInt.toNat = i; rw [hj]; rfl
theorem fr1 {k : Nat} {a : Addr} {i : Nat} (q : k ≤ a) : Fr k [⟨a, i⟩] := fun y hy => by cases List.mem_singleton.mp hy; exact q
theorem own_and (x M : Int32) (hM : 0 ≤ M.toInt) : ∃ n : Nat, (n : Int) ≤ M.toInt ∧ (x &&& M).toInt = (n : Int) := by
  have h1 : (x &&& M).toBitVec.toNat ≤ M.toBitVec.toNat := by rw [Int32.toBitVec_and, BitVec.toNat_and]; exact Nat.and_le_right
  have h2 : M.toInt = if 2 * M.toBitVec.toNat < 2 ^ 32 then (M.toBitVec.toNat : Int) else (M.toBitVec.toNat : Int) - (2 ^ 32 : Nat) := BitVec.toInt_eq_toNat_cond _
  have h3 : (x &&& M).toInt = if 2 * (x &&& M).toBitVec.toNat < 2 ^ 32 then ((x &&& M).toBitVec.toNat : Int) else ((x &&& M).toBitVec.toNat : Int) - (2 ^ 32 : Nat) := BitVec.toInt_eq_toNat_cond _
  have h4 := M.toBitVec.isLt
  refine ⟨(x &&& M).toBitVec.toNat, ?_, ?_⟩
  · split at h2 <;> omega
  · split at h2 <;> split at h3 <;> omega
theorem own_rem {x y : Int32} (hx : 0 ≤ x.toInt) (hy : 0 < y.toInt) : ∃ n : Nat, (n : Int) < y.toInt ∧ (x % y).toInt = (n : Int) ∧ (n : Int) = x.toInt % y.toInt := by
  have h1 : (x % y).toInt = x.toInt.tmod y.toInt := Int32.toInt_mod _ _
  rw [Int.tmod_eq_emod_of_nonneg hx] at h1
  have h2 := Int.emod_nonneg x.toInt (Int.ne_of_gt hy)
  have h3 := Int.emod_lt_of_pos x.toInt hy
  exact ⟨(x.toInt % y.toInt).toNat, by omega, by omega, by omega⟩
theorem own_add {x y : Int32} (h1 : -2147483648 ≤ x.toInt + y.toInt) (h2 : x.toInt + y.toInt < 2147483648) : (x + y).toInt = x.toInt + y.toInt := by
  have a := c_iadd x y
  have r := rng32 (x + y)
  omega
theorem own_sub {x y : Int32} (h1 : -2147483648 ≤ x.toInt - y.toInt) (h2 : x.toInt - y.toInt < 2147483648) : (x - y).toInt = x.toInt - y.toInt := by
  have a := c_isub x y
  have r := rng32 (x - y)
  omega
theorem own_ofNat {n : Nat} (h : n < 2147483648) : (Int32.ofNat n).toInt = (n : Int) := Int32.toInt_ofNat_of_lt h
theorem own_ieq {x : Int32} {n : Nat} (h : x.toInt = (n : Int)) : x = Int32.ofNat n := by
  have r := rng32 x
  apply Int32.toInt_inj.mp; rw [h, own_ofNat (by omega)]
theorem Wp.step {S S' : State} (f : ∀ t, Steps p.tables e below S' t → Steps p.tables e below S t) (k : Wp p e s below Q kc ks S') : Wp p e s below Q kc ks S := by
  obtain ⟨s₂, o, h1, r⟩ := k
  exact ⟨s₂, o, f _ h1, r⟩
theorem Wp.chain {S S' : State} (f : Steps p.tables e below S S') (k : Wp p e s below Q kc ks S') : Wp p e s below Q kc ks S := by
  obtain ⟨s₂, o, h1, r⟩ := k
  exact ⟨s₂, o, f.trans h1, r⟩
theorem Wp.cast {S S' : State} (q : S = S') (k : Wp p e s below Q kc ks S') : Wp p e s below Q kc ks S := q ▸ k
theorem Wp.enter {g g' : JFrame} (q : g = g') (k : Wp p e s below Q kc ks (T.setTop g')) : Wp p e s below Q kc ks (T.setTop g) := q ▸ k
theorem Wp.mono {S : State} {Q' : Option Value → Heap → List Loc → Prop} {kc' ks' : Nat} (k : Wp p e s below Q' kc' ks' S) (hq : ∀ v h L, Q' v h L → Q v h L) (h1 : kc' ≤ kc) (h2 : ks' ≤ ks) : Wp p e s below Q kc ks S := by
  obtain ⟨s₂, o, g1, g2, g3, v, L, g4, g5, g6, g7, g8⟩ := k
  exact ⟨s₂, o, g1, g2, g3, v, L, g4, hq _ _ _ g5, g6, g7, g8.mono h1 h2⟩
theorem Con.of {y : MethodName} {bytes : ByteArray} {maxL : Nat} {ret : Option FieldType} {ws : List Jvm.Cond} {rm : Room} {as' : Array Value} (hpn : plainFor y = true)
    (w : ∀ p e s m below meth c s₁, p.tables.exec = Jvm.exec → c.code = bytes → c.maxLocals = maxL → s.vm.findClass y.cls = some m.cls → meth.name = y.name → meth.sig.returnType = ret → meth.locks = false → Z.Warmed39 s.vm → Stand p l e rm s m as' below meth c s₁ [] 0 0 → s₁.heap = h → Wp p e s below Q rm.cells rm.slots (s₁.setTop (entryFrame m as' maxL))) :
    Con l Z y bytes maxL ret ws rm as' h Q := by
  refine MetFree.of_bodySF hpn hisR ?_
  intro p e s m args below meth c s₁ Bd hml0 hP hK
  obtain ⟨rfl, hZ, hh⟩ := hP
  exact w p e s m below meth c s₁ Bd.exec Bd.bytes hml0 (findClass_of_methodNamed Bd.named) (name_of_methodNamed Bd.named Bd.method).1 Bd.returns (BodyLoose.notSynchronized Bd) hZ (Stand.of_body Bd) (by rw [← hh, Bd.state]; rfl)
theorem Con.mono {y : MethodName} {bytes : ByteArray} {maxL : Nat} {ret : Option FieldType} {ws : List Jvm.Cond} {rm : Room} {as' : Array Value} {Q' : Option Value → Heap → List Loc → Prop} (k : Con l Z y bytes maxL ret ws rm as' h Q') (hq : ∀ v h L, Q' v h L → Q v h L) : Con l Z y bytes maxL ret ws rm as' h Q := by
  intro p e h1 h2 h3 s m args below h4 h5 h6 h7
  obtain ⟨n, o, g1, g2, g3, v, L, g4, g5, g6⟩ := k p e h1 h2 h3 s m args below h4 h5 h6 h7
  exact ⟨n, o, g1, g2, g3, v, L, g4, hq _ _ _ g5, g6⟩
/-! the ends -/
theorem Wp.done (X : Stand p l e R s m args below meth c T locs cells slots) (hlk : meth.locks = false) {v : Option Value} (hv : meth.sig.returnType = none → v = none)
    (stp : ∀ fs, (∀ (f : JFrame) (acts : List Action), f.method = m → f.locked = none → f.entered = [] → (doReturn e (T.setTop f) acts v).1 = T.setFrames fs) → Steps p.tables e below (T.setTop (mkF m pc Ls st)) (T.setFrames fs))
    (hQ : Q v T.heap locs) (hc : cells ≤ kc) (hs : slots ≤ ks) : Wp p e s below Q kc ks (T.setTop (mkF m pc Ls st)) := by
  obtain ⟨fs, hr, hrun, hended, hW, hsame⟩ := X.leave (v := v) hv hlk
  exact ⟨_, _, stp fs hr, hrun, hended, v, locs, rfl, hQ, ⟨_, rfl⟩, hW, hsame.mono hc hs⟩
theorem W.iret (X : Stand p l e R s m args below meth c T locs cells slots) (hx : p.tables.exec = Jvm.exec) (hlk : meth.locks = false) (hret : meth.sig.returnType = some .int) (hd : decode c.code pc = .ok (.ireturn, 1)) {z : Int32} (hc : cells ≤ kc) (hs : slots ≤ ks) (hQ : Q (some (.int z)) T.heap locs) : Wp p e s below Q kc ks (T.setTop (mkF m pc Ls (.int z :: rest))) :=
  Wp.done X hlk (fun h => by rw [hret] at h; cases h) (fun fs hr => retOut X hx hret rfl (Or.inl ⟨rfl, Or.inl rfl, _, rfl⟩) hd hr) hQ hc hs
theorem W.nret (X : Stand p l e R s m args below meth c T locs cells slots) (hx : p.tables.exec = Jvm.exec) (hlk : meth.locks = false) {t : FieldType} (hret : meth.sig.returnType = some t) (ht : t = .boolean ∨ t = .byte ∨ t = .char ∨ t = .short) (hd : decode c.code pc = .ok (.ireturn, 1)) {z : Int32} (hc : cells ≤ kc) (hs : slots ≤ ks) (hQ : Q (some (.int (nar t z))) T.heap locs) : Wp p e s below Q kc ks (T.setTop (mkF m pc Ls (.int z :: rest))) :=
  Wp.done X hlk (fun h => by rw [hret] at h; cases h) (fun fs hr => retN X hx hret ht hd hr) hQ hc hs
theorem W.lret (X : Stand p l e R s m args below meth c T locs cells slots) (hx : p.tables.exec = Jvm.exec) (hlk : meth.locks = false) (hret : meth.sig.returnType = some .long) (hd : decode c.code pc = .ok (.lreturn, 1)) {z : Int64} (hc : cells ≤ kc) (hs : slots ≤ ks) (hQ : Q (some (.long z)) T.heap locs) : Wp p e s below Q kc ks (T.setTop (mkF m pc Ls (.long z :: rest))) :=
  Wp.done X hlk (fun h => by rw [hret] at h; cases h) (fun fs hr => retOut X hx hret rfl (Or.inr (Or.inl ⟨rfl, rfl, _, rfl⟩)) hd hr) hQ hc hs
theorem W.dret (X : Stand p l e R s m args below meth c T locs cells slots) (hx : p.tables.exec = Jvm.exec) (hlk : meth.locks = false) (hret : meth.sig.returnType = some .double) (hd : decode c.code pc = .ok (.dreturn, 1)) {z : UInt64} (hc : cells ≤ kc) (hs : slots ≤ ks) (hQ : Q (some (.double z)) T.heap locs) : Wp p e s below Q kc ks (T.setTop (mkF m pc Ls (.double z :: rest))) :=
  Wp.done X hlk (fun h => by rw [hret] at h; cases h) (fun fs hr => retOut X hx hret rfl (Or.inr (Or.inr (Or.inl ⟨rfl, rfl, _, rfl⟩))) hd hr) hQ hc hs
theorem W.aret (X : Stand p l e R s m args below meth c T locs cells slots) (hx : p.tables.exec = Jvm.exec) (hlk : meth.locks = false) {t : FieldType} (hret : meth.sig.returnType = some t) (ht : t.isReference = true) {w : Value} (hw : w.isRef = true) (hd : decode c.code pc = .ok (.areturn, 1)) (hc : cells ≤ kc) (hs : slots ≤ ks) (hQ : Q (some w) T.heap locs) : Wp p e s below Q kc ks (T.setTop (mkF m pc Ls (w :: rest))) :=
  Wp.done X hlk (fun h => by rw [hret] at h; cases h) (fun fs hr => retOut X hx hret (by rcases ref_cases hw with rfl | ⟨z, rfl⟩ <;> cases t <;> first | rfl | cases ht) (Or.inr (Or.inr (Or.inr (Or.inr ⟨rfl, ht, hw⟩)))) hd hr) hQ hc hs
theorem W.vret (X : Stand p l e R s m args below meth c T locs cells slots) (hx : p.tables.exec = Jvm.exec) (hlk : meth.locks = false) (hret : meth.sig.returnType = none) (hd : decode c.code pc = .ok (.return_, 1)) (hc : cells ≤ kc) (hs : slots ≤ ks) (hQ : Q none T.heap locs) : Wp p e s below Q kc ks (T.setTop (mkF m pc Ls [])) :=
  Wp.done X hlk (fun _ => rfl) (fun fs hr => X.returnOut hx hret hd hr) hQ hc hs
/-! plain steps -/
theorem W.iconst (X : Stand p l e R s m args below meth c T locs cells slots) (hx : p.tables.exec = Jvm.exec) {i : Int} (pc' : Nat) (v : Int32) (hd : decode c.code pc = .ok (.iconst i, 1)) (hv : Int32.ofInt i = v) (hp : pc + 1 = pc') (K : Wp p e s below Q kc ks (T.setTop (mkF m pc' Ls (.int v :: st)))) : Wp p e s below Q kc ks (T.setTop (mkF m pc Ls st)) := by
  subst hp hv; exact Wp.step (fun _ k => XS.iconst X.here hx rfl hd k) K
theorem W.bipush (X : Stand p l e R s m args below meth c T locs cells slots) (hx : p.tables.exec = Jvm.exec) {i : Int} (pc' : Nat) (v : Int32) (hd : decode c.code pc = .ok (.bipush i, 2)) (hv : (Int8.ofInt i).toInt32 = v) (hp : pc + 2 = pc') (K : Wp p e s below Q kc ks (T.setTop (mkF m pc' Ls (.int v :: st)))) : Wp p e s below Q kc ks (T.setTop (mkF m pc Ls st)) := by
  subst hp hv; exact Wp.step (fun _ k => XS.bipush X.here hx rfl hd k) K
theorem W.sipush (X : Stand p l e R s m args below meth c T locs cells slots) (hx : p.tables.exec = Jvm.exec) {i : Int} (pc' : Nat) (v : Int32) (hd : decode c.code pc = .ok (.sipush i, 3)) (hv : (Int16.ofInt i).toInt32 = v) (hp : pc + 3 = pc') (K : Wp p e s below Q kc ks (T.setTop (mkF m pc' Ls (.int v :: st)))) : Wp p e s below Q kc ks (T.setTop (mkF m pc Ls st)) := by
  subst hp hv; exact Wp.step (fun _ k => XS.sipush X.here hx rfl hd k) K
theorem W.lconst (X : Stand p l e R s m args below meth c T locs cells slots) (hx : p.tables.exec = Jvm.exec) {i : Fin 2} (pc' : Nat) (v : Int64) (hd : decode c.code pc = .ok (.lconst i, 1)) (hv : (Int64.ofNat i) = v) (hp : pc + 1 = pc') (K : Wp p e s below Q kc ks (T.setTop (mkF m pc' Ls (.long v :: st)))) : Wp p e s below Q kc ks (T.setTop (mkF m pc Ls st)) := by
  subst hp hv; exact Wp.step (fun _ k => XT.lconst X.here hx rfl hd k) K
theorem W.anull (X : Stand p l e R s m args below meth c T locs cells slots) (hx : p.tables.exec = Jvm.exec) (pc' : Nat) (hd : decode c.code pc = .ok (.aconst_null, 1)) (hp : pc + 1 = pc') (K : Wp p e s below Q kc ks (T.setTop (mkF m pc' Ls (.null :: st)))) : Wp p e s below Q kc ks (T.setTop (mkF m pc Ls st)) := by
  subst hp; exact Wp.step (fun _ k => XS.aconstNull X.here hx rfl hd k) K
theorem W.ldcI (X : Stand p l e R s m args below meth c T locs cells slots) (hx : p.tables.exec = Jvm.exec) (hZ : Z.Warmed39 s.vm) {own : String} {index : Nat} {v : Int32} (pc' : Nat) (hown : s.vm.findClass own = some m.cls) (w : (Jvm.Cond.constant own index v).before a0 Z = true) (hd : decode c.code pc = .ok (.ldc index, 2)) (hp : pc + 2 = pc') (K : Wp p e s below Q kc ks (T.setTop (mkF m pc' Ls (.int v :: st)))) : Wp p e s below Q kc ks (T.setTop (mkF m pc Ls st)) := by
  subst hp; exact Wp.step (fun t k => X.ldcInt hx hown (mvT hZ w) (g := mkF m pc Ls st) rfl hd t k) K
theorem W.ldcL (X : Stand p l e R s m args below meth c T locs cells slots) (hx : p.tables.exec = Jvm.exec) (hZ : Z.Warmed39 s.vm) {own : String} {index : Nat} {v : Int64} (pc' : Nat) (hown : s.vm.findClass own = some m.cls) (w : (Jvm.Cond.constantLong own index v).before a0 Z = true) (hd : decode c.code pc = .ok (.ldc2_w index, 3)) (hp : pc + 3 = pc') (K : Wp p e s below Q kc ks (T.setTop (mkF m pc' Ls (.long v :: st)))) : Wp p e s below Q kc ks (T.setTop (mkF m pc Ls st)) := by
  subst hp; exact Wp.step (fun t k => X.ldc2Long hx hown (mvT hZ w) (g := mkF m pc Ls st) rfl hd t k) K
theorem W.iloadN (X : Stand p l e R s m args below meth c T locs cells slots) (hx : p.tables.exec = Jvm.exec) {k : Fin 4} {x : Int32} (pc' : Nat) (hd : decode c.code pc = .ok (.iload_n k, 1)) (hl : Ls[k.val]? = some (.val (.int x))) (hp : pc + 1 = pc') (K : Wp p e s below Q kc ks (T.setTop (mkF m pc' Ls (.int x :: st)))) : Wp p e s below Q kc ks (T.setTop (mkF m pc Ls st)) := by
  subst hp; exact Wp.step (fun _ k => XS.iloadN X.here hx rfl hd hl k) K
theorem W.iload (X : Stand p l e R s m args below meth c T locs cells slots) (hx : p.tables.exec = Jvm.exec) {k : Nat} {x : Int32} (pc' : Nat) (hd : decode c.code pc = .ok (.iload k, 2)) (hl : Ls[k]? = some (.val (.int x))) (hp : pc + 2 = pc') (K : Wp p e s below Q kc ks (T.setTop (mkF m pc' Ls (.int x :: st)))) : Wp p e s below Q kc ks (T.setTop (mkF m pc Ls st)) := by
  subst hp; exact Wp.step (fun _ k => XS.iload X.here hx rfl hd hl k) K
theorem W.aloadN (X : Stand p l e R s m args below meth c T locs cells slots) (hx : p.tables.exec = Jvm.exec) {k : Fin 4} {x : Value} (pc' : Nat) (hd : decode c.code pc = .ok (.aload_n k, 1)) (hl : Ls[k.val]? = some (.val x)) (hr : x.isRef = true) (hp : pc + 1 = pc') (K : Wp p e s below Q kc ks (T.setTop (mkF m pc' Ls (x :: st)))) : Wp p e s below Q kc ks (T.setTop (mkF m pc Ls st)) := by
  subst hp; exact Wp.step (fun _ k => XS.aloadN X.here hx rfl hd hl hr k) K
theorem W.aload (X : Stand p l e R s m args below meth c T locs cells slots) (hx : p.tables.exec = Jvm.exec) {k : Nat} {x : Value} (pc' : Nat) (hd : decode c.code pc = .ok (.aload k, 2)) (hl : Ls[k]? = some (.val x)) (hr : x.isRef = true) (hp : pc + 2 = pc') (K : Wp p e s below Q kc ks (T.setTop (mkF m pc' Ls (x :: st)))) : Wp p e s below Q kc ks (T.setTop (mkF m pc Ls st)) := by
  subst hp; exact Wp.step (fun _ k => XS.aload X.here hx rfl hd hl hr k) K
theorem W.lloadN (X : Stand p l e R s m args below meth c T locs cells slots) (hx : p.tables.exec = Jvm.exec) {k : Fin 4} {x : Int64} (pc' : Nat) (hd : decode c.code pc = .ok (.lload_n k, 1)) (hl : Ls[k.val]? = some (.val (.long x))) (hp : pc + 1 = pc') (K : Wp p e s below Q kc ks (T.setTop (mkF m pc' Ls (.long x :: st)))) : Wp p e s below Q kc ks (T.setTop (mkF m pc Ls st)) := by
  subst hp; exact Wp.step (fun _ k => XS.lloadN X.here hx rfl hd hl k) K
theorem W.lload (X : Stand p l e R s m args below meth c T locs cells slots) (hx : p.tables.exec = Jvm.exec) {k : Nat} {x : Int64} (pc' : Nat) (hd : decode c.code pc = .ok (.lload k, 2)) (hl : Ls[k]? = some (.val (.long x))) (hp : pc + 2 = pc') (K : Wp p e s below Q kc ks (T.setTop (mkF m pc' Ls (.long x :: st)))) : Wp p e s below Q kc ks (T.setTop (mkF m pc Ls st)) := by
  subst hp; exact Wp.step (fun _ k => XS.lload X.here hx rfl hd hl k) K
theorem W.istoreN (X : Stand p l e R s m args below meth c T locs cells slots) (hx : p.tables.exec = Jvm.exec) {k : Fin 4} {x : Int32} (pc' : Nat) (l' : Array Slot) (hd : decode c.code pc = .ok (.istore_n k, 1)) (hl : storeLocals Ls k.val (.int x) = some l') (hp : pc + 1 = pc') (K : Wp p e s below Q kc ks (T.setTop (mkF m pc' l' st))) : Wp p e s below Q kc ks (T.setTop (mkF m pc Ls (.int x :: st))) := by
  subst hp; exact Wp.step (fun _ k => XS.istoreN X.here hx rfl hd rfl hl k) K
theorem W.istore (X : Stand p l e R s m args below meth c T locs cells slots) (hx : p.tables.exec = Jvm.exec) {k : Nat} {x : Int32} (pc' : Nat) (l' : Array Slot) (hd : decode c.code pc = .ok (.istore k, 2)) (hl : storeLocals Ls k (.int x) = some l') (hp : pc + 2 = pc') (K : Wp p e s below Q kc ks (T.setTop (mkF m pc' l' st))) : Wp p e s below Q kc ks (T.setTop (mkF m pc Ls (.int x :: st))) := by
  subst hp; exact Wp.step (fun _ k => XS.istore X.here hx rfl hd rfl hl k) K
theorem W.astoreN (X : Stand p l e R s m args below meth c T locs cells slots) (hx : p.tables.exec = Jvm.exec) {k : Fin 4} {x : Value} (pc' : Nat) (l' : Array Slot) (hd : decode c.code pc = .ok (.astore_n k, 1)) (hr : x.isRef = true) (hl : storeLocals Ls k.val x = some l') (hp : pc + 1 = pc') (K : Wp p e s below Q kc ks (T.setTop (mkF m pc' l' st))) : Wp p e s below Q kc ks (T.setTop (mkF m pc Ls (x :: st))) := by
  subst hp; exact Wp.step (fun _ k => XS.astoreN X.here hx rfl hd rfl hr hl k) K
theorem W.astore (X : Stand p l e R s m args below meth c T locs cells slots) (hx : p.tables.exec = Jvm.exec) {k : Nat} {x : Value} (pc' : Nat) (l' : Array Slot) (hd : decode c.code pc = .ok (.astore k, 2)) (hr : x.isRef = true) (hl : storeLocals Ls k x = some l') (hp : pc + 2 = pc') (K : Wp p e s below Q kc ks (T.setTop (mkF m pc' l' st))) : Wp p e s below Q kc ks (T.setTop (mkF m pc Ls (x :: st))) := by
  subst hp; exact Wp.step (fun _ k => XS.astore X.here hx rfl hd rfl hr hl k) K
theorem W.lstoreN (X : Stand p l e R s m args below meth c T locs cells slots) (hx : p.tables.exec = Jvm.exec) {k : Fin 4} {x : Int64} (pc' : Nat) (l' : Array Slot) (hd : decode c.code pc = .ok (.lstore_n k, 1)) (hl : storeLocals Ls k.val (.long x) = some l') (hp : pc + 1 = pc') (K : Wp p e s below Q kc ks (T.setTop (mkF m pc' l' st))) : Wp p e s below Q kc ks (T.setTop (mkF m pc Ls (.long x :: st))) := by
  subst hp; exact Wp.step (fun _ k => XS.lstoreN X.here hx rfl hd rfl hl k) K
theorem W.lstore (X : Stand p l e R s m args below meth c T locs cells slots) (hx : p.tables.exec = Jvm.exec) {k : Nat} {x : Int64} (pc' : Nat) (l' : Array Slot) (hd : decode c.code pc = .ok (.lstore k, 2)) (hl : storeLocals Ls k (.long x) = some l') (hp : pc + 2 = pc') (K : Wp p e s below Q kc ks (T.setTop (mkF m pc' l' st))) : Wp p e s below Q kc ks (T.setTop (mkF m pc Ls (.long x :: st))) := by
  subst hp; exact Wp.step (fun _ k => XS.lstore X.here hx rfl hd rfl hl k) K
theorem W.iinc (X : Stand p l e R s m args below meth c T locs cells slots) (hx : p.tables.exec = Jvm.exec) {k : Nat} {i : Int} {x : Int32} (pc' : Nat) (v : Int32) (l' : Array Slot) (hd : decode c.code pc = .ok (.iinc k i, 3)) (hv : Int32.ofInt i = v) (hl : Ls[k]? = some (.val (.int x))) (hl' : storeLocals Ls k (.int (x + v)) = some l') (hp : pc + 3 = pc') (K : Wp p e s below Q kc ks (T.setTop (mkF m pc' l' st))) : Wp p e s below Q kc ks (T.setTop (mkF m pc Ls st)) := by
  subst hp hv; exact Wp.step (fun _ k => XS.iinc X.here hx rfl hd hl hl' k) K
theorem W.iadd (X : Stand p l e R s m args below meth c T locs cells slots) (hx : p.tables.exec = Jvm.exec) {x y : Int32} (pc' : Nat) (hd : decode c.code pc = .ok (.iadd, 1)) (hp : pc + 1 = pc') (K : Wp p e s below Q kc ks (T.setTop (mkF m pc' Ls (.int (x + y) :: st)))) : Wp p e s below Q kc ks (T.setTop (mkF m pc Ls (.int y :: .int x :: st))) := by
  subst hp; exact Wp.step (fun _ k => XS.iadd X.here hx rfl hd rfl k) K
theorem W.ladd (X : Stand p l e R s m args below meth c T locs cells slots) (hx : p.tables.exec = Jvm.exec) {x y : Int64} (pc' : Nat) (hd : decode c.code pc = .ok (.ladd, 1)) (hp : pc + 1 = pc') (K : Wp p e s below Q kc ks (T.setTop (mkF m pc' Ls (.long (x + y) :: st)))) : Wp p e s below Q kc ks (T.setTop (mkF m pc Ls (.long y :: .long x :: st))) := by
  subst hp; exact Wp.step (fun _ k => XS.ladd X.here hx rfl hd rfl k) K
theorem W.isub (X : Stand p l e R s m args below meth c T locs cells slots) (hx : p.tables.exec = Jvm.exec) {x y : Int32} (pc' : Nat) (hd : decode c.code pc = .ok (.isub, 1)) (hp : pc + 1 = pc') (K : Wp p e s below Q kc ks (T.setTop (mkF m pc' Ls (.int (x - y) :: st)))) : Wp p e s below Q kc ks (T.setTop (mkF m pc Ls (.int y :: .int x :: st))) := by
  subst hp; exact Wp.step (fun _ k => XS.isub X.here hx rfl hd rfl k) K
theorem W.lsub (X : Stand p l e R s m args below meth c T locs cells slots) (hx : p.tables.exec = Jvm.exec) {x y : Int64} (pc' : Nat) (hd : decode c.code pc = .ok (.lsub, 1)) (hp : pc + 1 = pc') (K : Wp p e s below Q kc ks (T.setTop (mkF m pc' Ls (.long (x - y) :: st)))) : Wp p e s below Q kc ks (T.setTop (mkF m pc Ls (.long y :: .long x :: st))) := by
  subst hp; exact Wp.step (fun _ k => XS.lsub X.here hx rfl hd rfl k) K
theorem W.imul (X : Stand p l e R s m args below meth c T locs cells slots) (hx : p.tables.exec = Jvm.exec) {x y : Int32} (pc' : Nat) (hd : decode c.code pc = .ok (.imul, 1)) (hp : pc + 1 = pc') (K : Wp p e s below Q kc ks (T.setTop (mkF m pc' Ls (.int (x * y) :: st)))) : Wp p e s below Q kc ks (T.setTop (mkF m pc Ls (.int y :: .int x :: st))) := by
  subst hp; exact Wp.step (fun _ k => XS.imul X.here hx rfl hd rfl k) K
theorem W.lmul (X : Stand p l e R s m args below meth c T locs cells slots) (hx : p.tables.exec = Jvm.exec) {x y : Int64} (pc' : Nat) (hd : decode c.code pc = .ok (.lmul, 1)) (hp : pc + 1 = pc') (K : Wp p e s below Q kc ks (T.setTop (mkF m pc' Ls (.long (x * y) :: st)))) : Wp p e s below Q kc ks (T.setTop (mkF m pc Ls (.long y :: .long x :: st))) := by
  subst hp; exact Wp.step (fun _ k => XS.lmul X.here hx rfl hd rfl k) K
theorem W.iand (X : Stand p l e R s m args below meth c T locs cells slots) (hx : p.tables.exec = Jvm.exec) {x y : Int32} (pc' : Nat) (hd : decode c.code pc = .ok (.iand, 1)) (hp : pc + 1 = pc') (K : Wp p e s below Q kc ks (T.setTop (mkF m pc' Ls (.int (x &&& y) :: st)))) : Wp p e s below Q kc ks (T.setTop (mkF m pc Ls (.int y :: .int x :: st))) := by
  subst hp; exact Wp.step (fun _ k => XS.iand X.here hx rfl hd rfl k) K
theorem W.land (X : Stand p l e R s m args below meth c T locs cells slots) (hx : p.tables.exec = Jvm.exec) {x y : Int64} (pc' : Nat) (hd : decode c.code pc = .ok (.land, 1)) (hp : pc + 1 = pc') (K : Wp p e s below Q kc ks (T.setTop (mkF m pc' Ls (.long (x &&& y) :: st)))) : Wp p e s below Q kc ks (T.setTop (mkF m pc Ls (.long y :: .long x :: st))) := by
  subst hp; exact Wp.step (fun _ k => XS.land X.here hx rfl hd rfl k) K
theorem W.ior (X : Stand p l e R s m args below meth c T locs cells slots) (hx : p.tables.exec = Jvm.exec) {x y : Int32} (pc' : Nat) (hd : decode c.code pc = .ok (.ior, 1)) (hp : pc + 1 = pc') (K : Wp p e s below Q kc ks (T.setTop (mkF m pc' Ls (.int (x ||| y) :: st)))) : Wp p e s below Q kc ks (T.setTop (mkF m pc Ls (.int y :: .int x :: st))) := by
  subst hp; exact Wp.step (fun _ k => XS.ior X.here hx rfl hd rfl k) K
theorem W.lor (X : Stand p l e R s m args below meth c T locs cells slots) (hx : p.tables.exec = Jvm.exec) {x y : Int64} (pc' : Nat) (hd : decode c.code pc = .ok (.lor, 1)) (hp : pc + 1 = pc') (K : Wp p e s below Q kc ks (T.setTop (mkF m pc' Ls (.long (x ||| y) :: st)))) : Wp p e s below Q kc ks (T.setTop (mkF m pc Ls (.long y :: .long x :: st))) := by
  subst hp; exact Wp.step (fun _ k => XS.lor X.here hx rfl hd rfl k) K
theorem W.ixor (X : Stand p l e R s m args below meth c T locs cells slots) (hx : p.tables.exec = Jvm.exec) {x y : Int32} (pc' : Nat) (hd : decode c.code pc = .ok (.ixor, 1)) (hp : pc + 1 = pc') (K : Wp p e s below Q kc ks (T.setTop (mkF m pc' Ls (.int (x ^^^ y) :: st)))) : Wp p e s below Q kc ks (T.setTop (mkF m pc Ls (.int y :: .int x :: st))) := by
  subst hp; exact Wp.step (fun _ k => XS.ixor X.here hx rfl hd rfl k) K
theorem W.lxor (X : Stand p l e R s m args below meth c T locs cells slots) (hx : p.tables.exec = Jvm.exec) {x y : Int64} (pc' : Nat) (hd : decode c.code pc = .ok (.lxor, 1)) (hp : pc + 1 = pc') (K : Wp p e s below Q kc ks (T.setTop (mkF m pc' Ls (.long (x ^^^ y) :: st)))) : Wp p e s below Q kc ks (T.setTop (mkF m pc Ls (.long y :: .long x :: st))) := by
  subst hp; exact Wp.step (fun _ k => XS.lxor X.here hx rfl hd rfl k) K
theorem W.ishl (X : Stand p l e R s m args below meth c T locs cells slots) (hx : p.tables.exec = Jvm.exec) {x y : Int32} (pc' : Nat) (hd : decode c.code pc = .ok (.ishl, 1)) (hp : pc + 1 = pc') (K : Wp p e s below Q kc ks (T.setTop (mkF m pc' Ls (.int (x <<< (y &&& 31)) :: st)))) : Wp p e s below Q kc ks (T.setTop (mkF m pc Ls (.int y :: .int x :: st))) := by
  subst hp; exact Wp.step (fun _ k => XS.ishl X.here hx rfl hd rfl k) K
theorem W.ishr (X : Stand p l e R s m args below meth c T locs cells slots) (hx : p.tables.exec = Jvm.exec) {x y : Int32} (pc' : Nat) (hd : decode c.code pc = .ok (.ishr, 1)) (hp : pc + 1 = pc') (K : Wp p e s below Q kc ks (T.setTop (mkF m pc' Ls (.int (x >>> (y &&& 31)) :: st)))) : Wp p e s below Q kc ks (T.setTop (mkF m pc Ls (.int y :: .int x :: st))) := by
  subst hp; exact Wp.step (fun _ k => XS.ishr X.here hx rfl hd rfl k) K
theorem W.iushr (X : Stand p l e R s m args below meth c T locs cells slots) (hx : p.tables.exec = Jvm.exec) {x y : Int32} (pc' : Nat) (hd : decode c.code pc = .ok (.iushr, 1)) (hp : pc + 1 = pc') (K : Wp p e s below Q kc ks (T.setTop (mkF m pc' Ls (.int ((x.toUInt32 >>> (y &&& 31).toUInt32).toInt32) :: st)))) : Wp p e s below Q kc ks (T.setTop (mkF m pc Ls (.int y :: .int x :: st))) := by
  subst hp; exact Wp.step (fun _ k => XS.iushr X.here hx rfl hd rfl k) K
theorem W.lshl (X : Stand p l e R s m args below meth c T locs cells slots) (hx : p.tables.exec = Jvm.exec) {x : Int64} {y : Int32} (pc' : Nat) (hd : decode c.code pc = .ok (.lshl, 1)) (hp : pc + 1 = pc') (K : Wp p e s below Q kc ks (T.setTop (mkF m pc' Ls (.long (x <<< (y &&& 0x3f).toInt64) :: st)))) : Wp p e s below Q kc ks (T.setTop (mkF m pc Ls (.int y :: .long x :: st))) := by
  subst hp; exact Wp.step (fun _ k => XS.lshl X.here hx rfl hd rfl k) K
theorem W.lshr (X : Stand p l e R s m args below meth c T locs cells slots) (hx : p.tables.exec = Jvm.exec) {x : Int64} {y : Int32} (pc' : Nat) (hd : decode c.code pc = .ok (.lshr, 1)) (hp : pc + 1 = pc') (K : Wp p e s below Q kc ks (T.setTop (mkF m pc' Ls (.long (x >>> (y &&& 0x3f).toInt64) :: st)))) : Wp p e s below Q kc ks (T.setTop (mkF m pc Ls (.int y :: .long x :: st))) := by
  subst hp; exact Wp.step (fun _ k => XS.lshr X.here hx rfl hd rfl k) K
theorem W.lushr (X : Stand p l e R s m args below meth c T locs cells slots) (hx : p.tables.exec = Jvm.exec) {x : Int64} {y : Int32} (pc' : Nat) (hd : decode c.code pc = .ok (.lushr, 1)) (hp : pc + 1 = pc') (K : Wp p e s below Q kc ks (T.setTop (mkF m pc' Ls (.long ((x.toUInt64 >>> (y &&& 0x3f).toInt64.toUInt64).toInt64) :: st)))) : Wp p e s below Q kc ks (T.setTop (mkF m pc Ls (.int y :: .long x :: st))) := by
  subst hp; exact Wp.step (fun _ k => XS.lushr X.here hx rfl hd rfl k) K
theorem W.lcmp (X : Stand p l e R s m args below meth c T locs cells slots) (hx : p.tables.exec = Jvm.exec) {x y : Int64} (pc' : Nat) (hd : decode c.code pc = .ok (.lcmp, 1)) (hp : pc + 1 = pc') (K : Wp p e s below Q kc ks (T.setTop (mkF m pc' Ls (.int (lcmpW x y) :: st)))) : Wp p e s below Q kc ks (T.setTop (mkF m pc Ls (.long y :: .long x :: st))) := by
  subst hp; exact Wp.step (fun _ k => XS.lcmp X.here hx rfl hd rfl k) K
theorem W.irem (X : Stand p l e R s m args below meth c T locs cells slots) (hx : p.tables.exec = Jvm.exec) {x y : Int32} (pc' : Nat) (hd : decode c.code pc = .ok (.irem, 1)) (hy : y ≠ 0) (hp : pc + 1 = pc') (K : Wp p e s below Q kc ks (T.setTop (mkF m pc' Ls (.int (x % y) :: st)))) : Wp p e s below Q kc ks (T.setTop (mkF m pc Ls (.int y :: .int x :: st))) := by
  subst hp; exact Wp.step (fun _ k => iremM X hx (g := mkF m pc Ls (.int y :: .int x :: st)) rfl hd rfl hy k) K
theorem W.idiv (X : Stand p l e R s m args below meth c T locs cells slots) (hx : p.tables.exec = Jvm.exec) {x y : Int32} (pc' : Nat) (hd : decode c.code pc = .ok (.idiv, 1)) (hy : y ≠ 0) (hp : pc + 1 = pc') (K : Wp p e s below Q kc ks (T.setTop (mkF m pc' Ls (.int (x / y) :: st)))) : Wp p e s below Q kc ks (T.setTop (mkF m pc Ls (.int y :: .int x :: st))) := by
  subst hp; exact Wp.step (fun _ k => XS.idiv X.here hx rfl hd rfl hy k) K
theorem W.ineg (X : Stand p l e R s m args below meth c T locs cells slots) (hx : p.tables.exec = Jvm.exec) {x : Int32} (pc' : Nat) (hd : decode c.code pc = .ok (.ineg, 1)) (hp : pc + 1 = pc') (K : Wp p e s below Q kc ks (T.setTop (mkF m pc' Ls (.int (-x) :: st)))) : Wp p e s below Q kc ks (T.setTop (mkF m pc Ls (.int x :: st))) := by
  subst hp; exact Wp.step (fun _ k => XS.ineg X.here hx rfl hd rfl k) K
theorem W.lneg (X : Stand p l e R s m args below meth c T locs cells slots) (hx : p.tables.exec = Jvm.exec) {x : Int64} (pc' : Nat) (hd : decode c.code pc = .ok (.lneg, 1)) (hp : pc + 1 = pc') (K : Wp p e s below Q kc ks (T.setTop (mkF m pc' Ls (.long (-x) :: st)))) : Wp p e s below Q kc ks (T.setTop (mkF m pc Ls (.long x :: st))) := by
  subst hp; exact Wp.step (fun _ k => XS.lneg X.here hx rfl hd rfl k) K
theorem W.i2b (X : Stand p l e R s m args below meth c T locs cells slots) (hx : p.tables.exec = Jvm.exec) {x : Int32} (pc' : Nat) (hd : decode c.code pc = .ok (.i2b, 1)) (hp : pc + 1 = pc') (K : Wp p e s below Q kc ks (T.setTop (mkF m pc' Ls (.int x.toInt8.toInt32 :: st)))) : Wp p e s below Q kc ks (T.setTop (mkF m pc Ls (.int x :: st))) := by
  subst hp; exact Wp.step (fun _ k => XS.i2b X.here hx rfl hd rfl k) K
theorem W.i2c (X : Stand p l e R s m args below meth c T locs cells slots) (hx : p.tables.exec = Jvm.exec) {x : Int32} (pc' : Nat) (hd : decode c.code pc = .ok (.i2c, 1)) (hp : pc + 1 = pc') (K : Wp p e s below Q kc ks (T.setTop (mkF m pc' Ls (.int x.toUInt32.toUInt16.toUInt32.toInt32 :: st)))) : Wp p e s below Q kc ks (T.setTop (mkF m pc Ls (.int x :: st))) := by
  subst hp; exact Wp.step (fun _ k => XS.i2c X.here hx rfl hd rfl k) K
theorem W.i2s (X : Stand p l e R s m args below meth c T locs cells slots) (hx : p.tables.exec = Jvm.exec) {x : Int32} (pc' : Nat) (hd : decode c.code pc = .ok (.i2s, 1)) (hp : pc + 1 = pc') (K : Wp p e s below Q kc ks (T.setTop (mkF m pc' Ls (.int x.toInt16.toInt32 :: st)))) : Wp p e s below Q kc ks (T.setTop (mkF m pc Ls (.int x :: st))) := by
  subst hp; exact Wp.step (fun _ k => XS.i2s X.here hx rfl hd rfl k) K
theorem W.i2l (X : Stand p l e R s m args below meth c T locs cells slots) (hx : p.tables.exec = Jvm.exec) {x : Int32} (pc' : Nat) (hd : decode c.code pc = .ok (.i2l, 1)) (hp : pc + 1 = pc') (K : Wp p e s below Q kc ks (T.setTop (mkF m pc' Ls (.long x.toInt64 :: st)))) : Wp p e s below Q kc ks (T.setTop (mkF m pc Ls (.int x :: st))) := by
  subst hp; exact Wp.step (fun _ k => XS.i2l X.here hx rfl hd rfl k) K
theorem W.l2i (X : Stand p l e R s m args below meth c T locs cells slots) (hx : p.tables.exec = Jvm.exec) {x : Int64} (pc' : Nat) (hd : decode c.code pc = .ok (.l2i, 1)) (hp : pc + 1 = pc') (K : Wp p e s below Q kc ks (T.setTop (mkF m pc' Ls (.int x.toInt32 :: st)))) : Wp p e s below Q kc ks (T.setTop (mkF m pc Ls (.long x :: st))) := by
  subst hp; exact Wp.step (fun _ k => XS.l2i X.here hx rfl hd rfl k) K
theorem W.dup (X : Stand p l e R s m args below meth c T locs cells slots) (hx : p.tables.exec = Jvm.exec) {x : Value} (pc' : Nat) (hd : decode c.code pc = .ok (.dup, 1)) (hc : x.category = 1) (hp : pc + 1 = pc') (K : Wp p e s below Q kc ks (T.setTop (mkF m pc' Ls (x :: x :: st)))) : Wp p e s below Q kc ks (T.setTop (mkF m pc Ls (x :: st))) := by
  subst hp; exact Wp.step (fun _ k => XS.dup X.here hx rfl hd rfl hc k) K
theorem W.pop1 (X : Stand p l e R s m args below meth c T locs cells slots) (hx : p.tables.exec = Jvm.exec) {x : Value} (pc' : Nat) (hd : decode c.code pc = .ok (.pop, 1)) (hc : x.category = 1) (hp : pc + 1 = pc') (K : Wp p e s below Q kc ks (T.setTop (mkF m pc' Ls st))) : Wp p e s below Q kc ks (T.setTop (mkF m pc Ls (x :: st))) := by
  subst hp; exact Wp.step (fun _ k => XS.pop X.here hx rfl hd rfl hc k) K
theorem W.dup2 (X : Stand p l e R s m args below meth c T locs cells slots) (hx : p.tables.exec = Jvm.exec) {x y : Value} (pc' : Nat) (hd : decode c.code pc = .ok (.dup2, 1)) (hc : x.category = 1) (hc' : y.category = 1) (hp : pc + 1 = pc') (K : Wp p e s below Q kc ks (T.setTop (mkF m pc' Ls (x :: y :: x :: y :: st)))) : Wp p e s below Q kc ks (T.setTop (mkF m pc Ls (x :: y :: st))) := by
  subst hp; exact Wp.step (fun _ k => XT.dup2 X.here hx rfl hd rfl hc hc' k) K
theorem W.dupX1 (X : Stand p l e R s m args below meth c T locs cells slots) (hx : p.tables.exec = Jvm.exec) {x y : Value} (pc' : Nat) (hd : decode c.code pc = .ok (.dup_x1, 1)) (hc : x.category = 1) (hc' : y.category = 1) (hp : pc + 1 = pc') (K : Wp p e s below Q kc ks (T.setTop (mkF m pc' Ls (x :: y :: x :: st)))) : Wp p e s below Q kc ks (T.setTop (mkF m pc Ls (x :: y :: st))) := by
  subst hp; exact Wp.step (fun _ k => XS.dupX1 X.here hx rfl hd rfl hc hc' k) K
theorem W.goto (X : Stand p l e R s m args below meth c T locs cells slots) (hx : p.tables.exec = Jvm.exec) {o : Int} (pc' : Nat) (hd : decode c.code pc = .ok (.goto o, 3)) (ho : 0 ≤ (pc : Int) + o) (hp : ((pc : Int) + o).toNat = pc') (K : Wp p e s below Q kc ks (T.setTop (mkF m pc' Ls st))) : Wp p e s below Q kc ks (T.setTop (mkF m pc Ls st)) :=
  Wp.step (fun _ k => XS.goto X.here hx rfl rfl hd ho hp k) K
theorem W.icmp (X : Stand p l e R s m args below meth c T locs cells slots) (hx : p.tables.exec = Jvm.exec) {cd : ClassFile.Cond} {o : Int} {x y : Int32} (pcT pcF : Nat) (hd : decode c.code pc = .ok (.if_icmp cd o, 3)) (ho : 0 ≤ (pc : Int) + o) (hp : ((pc : Int) + o).toNat = pcT) (hq : pc + 3 = pcF) (KT : if_icmp.holds cd x y = true → Wp p e s below Q kc ks (T.setTop (mkF m pcT Ls st))) (KF : if_icmp.holds cd x y = false → Wp p e s below Q kc ks (T.setTop (mkF m pcF Ls st))) : Wp p e s below Q kc ks (T.setTop (mkF m pc Ls (.int y :: .int x :: st))) := by
  subst hq
  cases hh : if_icmp.holds cd x y
  · exact Wp.step (fun _ k => XS.icmpNo X.here hx rfl hd rfl hh k) (KF hh)
  · exact Wp.step (fun _ k => XS.icmpYes X.here hx rfl rfl hd rfl hh ho hp k) (KT hh)
theorem W.ifc (X : Stand p l e R s m args below meth c T locs cells slots) (hx : p.tables.exec = Jvm.exec) {cd : ClassFile.Cond} {o : Int} {x : Int32} (pcT pcF : Nat) (hd : decode c.code pc = .ok (.ifCond cd o, 3)) (ho : 0 ≤ (pc : Int) + o) (hp : ((pc : Int) + o).toNat = pcT) (hq : pc + 3 = pcF) (KT : if_icmp.holds cd x 0 = true → Wp p e s below Q kc ks (T.setTop (mkF m pcT Ls st))) (KF : if_icmp.holds cd x 0 = false → Wp p e s below Q kc ks (T.setTop (mkF m pcF Ls st))) : Wp p e s below Q kc ks (T.setTop (mkF m pc Ls (.int x :: st))) := by
  subst hq
  rw [← if0] at KT KF
  cases hh : ifCond.holds cd x
  · exact Wp.step (fun _ k => XS.ifNo X.here hx rfl hd rfl hh k) (KF hh)
  · exact Wp.step (fun _ k => XS.ifYes X.here hx rfl rfl hd rfl hh ho hp k) (KT hh)
theorem W.icmpEq (X : Stand p l e R s m args below meth c T locs cells slots) (hx : p.tables.exec = Jvm.exec) {o : Int} {x y : Int32} (pcT pcF : Nat) (hd : decode c.code pc = .ok (.if_icmp .eq o, 3)) (ho : 0 ≤ (pc : Int) + o) (hp : ((pc : Int) + o).toNat = pcT) (hq : pc + 3 = pcF) (KT : x = y → Wp p e s below Q kc ks (T.setTop (mkF m pcT Ls st))) (KF : ¬ x = y → Wp p e s below Q kc ks (T.setTop (mkF m pcF Ls st))) : Wp p e s below Q kc ks (T.setTop (mkF m pc Ls (.int y :: .int x :: st))) :=
  W.icmp X hx pcT pcF hd ho hp hq (fun hh => KT (Decidable.byContradiction fun q => by rw [(feq q).1] at hh; cases hh)) (fun hh => KF (fun q => by rw [(teq q).1] at hh; cases hh))
theorem W.ifEq (X : Stand p l e R s m args below meth c T locs cells slots) (hx : p.tables.exec = Jvm.exec) {o : Int} {x : Int32} (pcT pcF : Nat) (hd : decode c.code pc = .ok (.ifCond .eq o, 3)) (ho : 0 ≤ (pc : Int) + o) (hp : ((pc : Int) + o).toNat = pcT) (hq : pc + 3 = pcF) (KT : x = 0 → Wp p e s below Q kc ks (T.setTop (mkF m pcT Ls st))) (KF : ¬ x = 0 → Wp p e s below Q kc ks (T.setTop (mkF m pcF Ls st))) : Wp p e s below Q kc ks (T.setTop (mkF m pc Ls (.int x :: st))) :=
  W.ifc X hx pcT pcF hd ho hp hq (fun hh => KT (Decidable.byContradiction fun q => by rw [(feq q).1] at hh; cases hh)) (fun hh => KF (fun q => by rw [(teq q).1] at hh; cases hh))
theorem W.icmpNe (X : Stand p l e R s m args below meth c T locs cells slots) (hx : p.tables.exec = Jvm.exec) {o : Int} {x y : Int32} (pcT pcF : Nat) (hd : decode c.code pc = .ok (.if_icmp .ne o, 3)) (ho : 0 ≤ (pc : Int) + o) (hp : ((pc : Int) + o).toNat = pcT) (hq : pc + 3 = pcF) (KT : ¬ x = y → Wp p e s below Q kc ks (T.setTop (mkF m pcT Ls st))) (KF : x = y → Wp p e s below Q kc ks (T.setTop (mkF m pcF Ls st))) : Wp p e s below Q kc ks (T.setTop (mkF m pc Ls (.int y :: .int x :: st))) :=
  W.icmp X hx pcT pcF hd ho hp hq (fun hh => KT (fun q => by rw [(teq q).2] at hh; cases hh)) (fun hh => KF (Decidable.byContradiction fun q => by rw [(feq q).2] at hh; cases hh))
theorem W.ifNe (X : Stand p l e R s m args below meth c T locs cells slots) (hx : p.tables.exec = Jvm.exec) {o : Int} {x : Int32} (pcT pcF : Nat) (hd : decode c.code pc = .ok (.ifCond .ne o, 3)) (ho : 0 ≤ (pc : Int) + o) (hp : ((pc : Int) + o).toNat = pcT) (hq : pc + 3 = pcF) (KT : ¬ x = 0 → Wp p e s below Q kc ks (T.setTop (mkF m pcT Ls st))) (KF : x = 0 → Wp p e s below Q kc ks (T.setTop (mkF m pcF Ls st))) : Wp p e s below Q kc ks (T.setTop (mkF m pc Ls (.int x :: st))) :=
  W.ifc X hx pcT pcF hd ho hp hq (fun hh => KT (fun q => by rw [(teq q).2] at hh; cases hh)) (fun hh => KF (Decidable.byContradiction fun q => by rw [(feq q).2] at hh; cases hh))
theorem W.icmpLt (X : Stand p l e R s m args below meth c T locs cells slots) (hx : p.tables.exec = Jvm.exec) {o : Int} {x y : Int32} (pcT pcF : Nat) (hd : decode c.code pc = .ok (.if_icmp .lt o, 3)) (ho : 0 ≤ (pc : Int) + o) (hp : ((pc : Int) + o).toNat = pcT) (hq : pc + 3 = pcF) (KT : x < y → Wp p e s below Q kc ks (T.setTop (mkF m pcT Ls st))) (KF : ¬ x < y → Wp p e s below Q kc ks (T.setTop (mkF m pcF Ls st))) : Wp p e s below Q kc ks (T.setTop (mkF m pc Ls (.int y :: .int x :: st))) :=
  W.icmp X hx pcT pcF hd ho hp hq (fun hh => KT (Decidable.byContradiction fun q => by rw [(flt q).1] at hh; cases hh)) (fun hh => KF (fun q => by rw [(tlt q).1] at hh; cases hh))
theorem W.ifLt (X : Stand p l e R s m args below meth c T locs cells slots) (hx : p.tables.exec = Jvm.exec) {o : Int} {x : Int32} (pcT pcF : Nat) (hd : decode c.code pc = .ok (.ifCond .lt o, 3)) (ho : 0 ≤ (pc : Int) + o) (hp : ((pc : Int) + o).toNat = pcT) (hq : pc + 3 = pcF) (KT : x < 0 → Wp p e s below Q kc ks (T.setTop (mkF m pcT Ls st))) (KF : ¬ x < 0 → Wp p e s below Q kc ks (T.setTop (mkF m pcF Ls st))) : Wp p e s below Q kc ks (T.setTop (mkF m pc Ls (.int x :: st))) :=
  W.ifc X hx pcT pcF hd ho hp hq (fun hh => KT (Decidable.byContradiction fun q => by rw [(flt q).1] at hh; cases hh)) (fun hh => KF (fun q => by rw [(tlt q).1] at hh; cases hh))
theorem W.icmpGe (X : Stand p l e R s m args below meth c T locs cells slots) (hx : p.tables.exec = Jvm.exec) {o : Int} {x y : Int32} (pcT pcF : Nat) (hd : decode c.code pc = .ok (.if_icmp .ge o, 3)) (ho : 0 ≤ (pc : Int) + o) (hp : ((pc : Int) + o).toNat = pcT) (hq : pc + 3 = pcF) (KT : ¬ x < y → Wp p e s below Q kc ks (T.setTop (mkF m pcT Ls st))) (KF : x < y → Wp p e s below Q kc ks (T.setTop (mkF m pcF Ls st))) : Wp p e s below Q kc ks (T.setTop (mkF m pc Ls (.int y :: .int x :: st))) :=
  W.icmp X hx pcT pcF hd ho hp hq (fun hh => KT (fun q => by rw [(tlt q).2.1] at hh; cases hh)) (fun hh => KF (Decidable.byContradiction fun q => by rw [(flt q).2.1] at hh; cases hh))
theorem W.ifGe (X : Stand p l e R s m args below meth c T locs cells slots) (hx : p.tables.exec = Jvm.exec) {o : Int} {x : Int32} (pcT pcF : Nat) (hd : decode c.code pc = .ok (.ifCond .ge o, 3)) (ho : 0 ≤ (pc : Int) + o) (hp : ((pc : Int) + o).toNat = pcT) (hq : pc + 3 = pcF) (KT : ¬ x < 0 → Wp p e s below Q kc ks (T.setTop (mkF m pcT Ls st))) (KF : x < 0 → Wp p e s below Q kc ks (T.setTop (mkF m pcF Ls st))) : Wp p e s below Q kc ks (T.setTop (mkF m pc Ls (.int x :: st))) :=
  W.ifc X hx pcT pcF hd ho hp hq (fun hh => KT (fun q => by rw [(tlt q).2.1] at hh; cases hh)) (fun hh => KF (Decidable.byContradiction fun q => by rw [(flt q).2.1] at hh; cases hh))
theorem W.icmpGt (X : Stand p l e R s m args below meth c T locs cells slots) (hx : p.tables.exec = Jvm.exec) {o : Int} {x y : Int32} (pcT pcF : Nat) (hd : decode c.code pc = .ok (.if_icmp .gt o, 3)) (ho : 0 ≤ (pc : Int) + o) (hp : ((pc : Int) + o).toNat = pcT) (hq : pc + 3 = pcF) (KT : y < x → Wp p e s below Q kc ks (T.setTop (mkF m pcT Ls st))) (KF : ¬ y < x → Wp p e s below Q kc ks (T.setTop (mkF m pcF Ls st))) : Wp p e s below Q kc ks (T.setTop (mkF m pc Ls (.int y :: .int x :: st))) :=
  W.icmp X hx pcT pcF hd ho hp hq (fun hh => KT (Decidable.byContradiction fun q => by rw [(flt q).2.2.1] at hh; cases hh)) (fun hh => KF (fun q => by rw [(tlt q).2.2.1] at hh; cases hh))
theorem W.ifGt (X : Stand p l e R s m args below meth c T locs cells slots) (hx : p.tables.exec = Jvm.exec) {o : Int} {x : Int32} (pcT pcF : Nat) (hd : decode c.code pc = .ok (.ifCond .gt o, 3)) (ho : 0 ≤ (pc : Int) + o) (hp : ((pc : Int) + o).toNat = pcT) (hq : pc + 3 = pcF) (KT : 0 < x → Wp p e s below Q kc ks (T.setTop (mkF m pcT Ls st))) (KF : ¬ 0 < x → Wp p e s below Q kc ks (T.setTop (mkF m pcF Ls st))) : Wp p e s below Q kc ks (T.setTop (mkF m pc Ls (.int x :: st))) :=
  W.ifc X hx pcT pcF hd ho hp hq (fun hh => KT (Decidable.byContradiction fun q => by rw [(flt q).2.2.1] at hh; cases hh)) (fun hh => KF (fun q => by rw [(tlt q).2.2.1] at hh; cases hh))
theorem W.icmpLe (X : Stand p l e R s m args below meth c T locs cells slots) (hx : p.tables.exec = Jvm.exec) {o : Int} {x y : Int32} (pcT pcF : Nat) (hd : decode c.code pc = .ok (.if_icmp .le o, 3)) (ho : 0 ≤ (pc : Int) + o) (hp : ((pc : Int) + o).toNat = pcT) (hq : pc + 3 = pcF) (KT : ¬ y < x → Wp p e s below Q kc ks (T.setTop (mkF m pcT Ls st))) (KF : y < x → Wp p e s below Q kc ks (T.setTop (mkF m pcF Ls st))) : Wp p e s below Q kc ks (T.setTop (mkF m pc Ls (.int y :: .int x :: st))) :=
  W.icmp X hx pcT pcF hd ho hp hq (fun hh => KT (fun q => by rw [(tlt q).2.2.2] at hh; cases hh)) (fun hh => KF (Decidable.byContradiction fun q => by rw [(flt q).2.2.2] at hh; cases hh))
theorem W.ifLe (X : Stand p l e R s m args below meth c T locs cells slots) (hx : p.tables.exec = Jvm.exec) {o : Int} {x : Int32} (pcT pcF : Nat) (hd : decode c.code pc = .ok (.ifCond .le o, 3)) (ho : 0 ≤ (pc : Int) + o) (hp : ((pc : Int) + o).toNat = pcT) (hq : pc + 3 = pcF) (KT : ¬ 0 < x → Wp p e s below Q kc ks (T.setTop (mkF m pcT Ls st))) (KF : 0 < x → Wp p e s below Q kc ks (T.setTop (mkF m pcF Ls st))) : Wp p e s below Q kc ks (T.setTop (mkF m pc Ls (.int x :: st))) :=
  W.ifc X hx pcT pcF hd ho hp hq (fun hh => KT (fun q => by rw [(tlt q).2.2.2] at hh; cases hh)) (fun hh => KF (Decidable.byContradiction fun q => by rw [(flt q).2.2.2] at hh; cases hh))
theorem W.lifEq (X : Stand p l e R s m args below meth c T locs cells slots) (hx : p.tables.exec = Jvm.exec) {o : Int} {x y : Int64} (pcT pcF : Nat) (hd : decode c.code pc = .ok (.ifCond .eq o, 3)) (ho : 0 ≤ (pc : Int) + o) (hp : ((pc : Int) + o).toNat = pcT) (hq : pc + 3 = pcF) (KT : x = y → Wp p e s below Q kc ks (T.setTop (mkF m pcT Ls st))) (KF : ¬ x = y → Wp p e s below Q kc ks (T.setTop (mkF m pcF Ls st))) : Wp p e s below Q kc ks (T.setTop (mkF m pc Ls (.int (lcmpW x y) :: st))) :=
  W.ifEq X hx pcT pcF hd ho hp hq (fun q => KT ((lw_eq x y).mp q)) (fun q => KF (fun r => q ((lw_eq x y).mpr r)))
theorem W.lifNe (X : Stand p l e R s m args below meth c T locs cells slots) (hx : p.tables.exec = Jvm.exec) {o : Int} {x y : Int64} (pcT pcF : Nat) (hd : decode c.code pc = .ok (.ifCond .ne o, 3)) (ho : 0 ≤ (pc : Int) + o) (hp : ((pc : Int) + o).toNat = pcT) (hq : pc + 3 = pcF) (KT : ¬ x = y → Wp p e s below Q kc ks (T.setTop (mkF m pcT Ls st))) (KF : x = y → Wp p e s below Q kc ks (T.setTop (mkF m pcF Ls st))) : Wp p e s below Q kc ks (T.setTop (mkF m pc Ls (.int (lcmpW x y) :: st))) :=
  W.ifNe X hx pcT pcF hd ho hp hq (fun q => KT (fun r => q ((lw_eq x y).mpr r))) (fun q => KF ((lw_eq x y).mp q))
theorem W.lifLt (X : Stand p l e R s m args below meth c T locs cells slots) (hx : p.tables.exec = Jvm.exec) {o : Int} {x y : Int64} (pcT pcF : Nat) (hd : decode c.code pc = .ok (.ifCond .lt o, 3)) (ho : 0 ≤ (pc : Int) + o) (hp : ((pc : Int) + o).toNat = pcT) (hq : pc + 3 = pcF) (KT : x < y → Wp p e s below Q kc ks (T.setTop (mkF m pcT Ls st))) (KF : ¬ x < y → Wp p e s below Q kc ks (T.setTop (mkF m pcF Ls st))) : Wp p e s below Q kc ks (T.setTop (mkF m pc Ls (.int (lcmpW x y) :: st))) :=
  W.ifLt X hx pcT pcF hd ho hp hq (fun q => KT ((lw_lt x y).mp q)) (fun q => KF (fun r => q ((lw_lt x y).mpr r)))
theorem W.lifGe (X : Stand p l e R s m args below meth c T locs cells slots) (hx : p.tables.exec = Jvm.exec) {o : Int} {x y : Int64} (pcT pcF : Nat) (hd : decode c.code pc = .ok (.ifCond .ge o, 3)) (ho : 0 ≤ (pc : Int) + o) (hp : ((pc : Int) + o).toNat = pcT) (hq : pc + 3 = pcF) (KT : ¬ x < y → Wp p e s below Q kc ks (T.setTop (mkF m pcT Ls st))) (KF : x < y → Wp p e s below Q kc ks (T.setTop (mkF m pcF Ls st))) : Wp p e s below Q kc ks (T.setTop (mkF m pc Ls (.int (lcmpW x y) :: st))) :=
  W.ifGe X hx pcT pcF hd ho hp hq (fun q => KT (fun r => q ((lw_lt x y).mpr r))) (fun q => KF ((lw_lt x y).mp q))
theorem W.lifGt (X : Stand p l e R s m args below meth c T locs cells slots) (hx : p.tables.exec = Jvm.exec) {o : Int} {x y : Int64} (pcT pcF : Nat) (hd : decode c.code pc = .ok (.ifCond .gt o, 3)) (ho : 0 ≤ (pc : Int) + o) (hp : ((pc : Int) + o).toNat = pcT) (hq : pc + 3 = pcF) (KT : y < x → Wp p e s below Q kc ks (T.setTop (mkF m pcT Ls st))) (KF : ¬ y < x → Wp p e s below Q kc ks (T.setTop (mkF m pcF Ls st))) : Wp p e s below Q kc ks (T.setTop (mkF m pc Ls (.int (lcmpW x y) :: st))) :=
  W.ifGt X hx pcT pcF hd ho hp hq (fun q => KT ((lw_gt x y).mp q)) (fun q => KF (fun r => q ((lw_gt x y).mpr r)))
theorem W.lifLe (X : Stand p l e R s m args below meth c T locs cells slots) (hx : p.tables.exec = Jvm.exec) {o : Int} {x y : Int64} (pcT pcF : Nat) (hd : decode c.code pc = .ok (.ifCond .le o, 3)) (ho : 0 ≤ (pc : Int) + o) (hp : ((pc : Int) + o).toNat = pcT) (hq : pc + 3 = pcF) (KT : ¬ y < x → Wp p e s below Q kc ks (T.setTop (mkF m pcT Ls st))) (KF : y < x → Wp p e s below Q kc ks (T.setTop (mkF m pcF Ls st))) : Wp p e s below Q kc ks (T.setTop (mkF m pc Ls (.int (lcmpW x y) :: st))) :=
  W.ifLe X hx pcT pcF hd ho hp hq (fun q => KT (fun r => q ((lw_gt x y).mpr r))) (fun q => KF ((lw_gt x y).mp q))
theorem W.nonnullR (X : Stand p l e R s m args below meth c T locs cells slots) (hx : p.tables.exec = Jvm.exec) {o : Int} {b : Addr} (pcT : Nat) (hd : decode c.code pc = .ok (.ifnonnull o, 3)) (ho : 0 ≤ (pc : Int) + o) (hp : ((pc : Int) + o).toNat = pcT) (K : Wp p e s below Q kc ks (T.setTop (mkF m pcT Ls st))) : Wp p e s below Q kc ks (T.setTop (mkF m pc Ls (.ref b :: st))) :=
  Wp.step (fun _ k => XS.ifnonnullYes X.here hx rfl rfl hd rfl ho hp k) K
theorem W.nonnullN (X : Stand p l e R s m args below meth c T locs cells slots) (hx : p.tables.exec = Jvm.exec) {o : Int} (pc' : Nat) (hd : decode c.code pc = .ok (.ifnonnull o, 3)) (hp : pc + 3 = pc') (K : Wp p e s below Q kc ks (T.setTop (mkF m pc' Ls st))) : Wp p e s below Q kc ks (T.setTop (mkF m pc Ls (.null :: st))) := by
  subst hp; exact Wp.step (fun _ k => XS.ifnonnullNo X.here hx rfl hd rfl k) K
theorem W.nullN (X : Stand p l e R s m args below meth c T locs cells slots) (hx : p.tables.exec = Jvm.exec) {o : Int} (pcT : Nat) (hd : decode c.code pc = .ok (.ifnull o, 3)) (ho : 0 ≤ (pc : Int) + o) (hp : ((pc : Int) + o).toNat = pcT) (K : Wp p e s below Q kc ks (T.setTop (mkF m pcT Ls st))) : Wp p e s below Q kc ks (T.setTop (mkF m pc Ls (.null :: st))) :=
  Wp.step (fun _ k => XS.ifnullYes X.here hx rfl rfl hd rfl ho hp k) K
theorem W.nullR (X : Stand p l e R s m args below meth c T locs cells slots) (hx : p.tables.exec = Jvm.exec) {o : Int} {b : Addr} (pc' : Nat) (hd : decode c.code pc = .ok (.ifnull o, 3)) (hp : pc + 3 = pc') (K : Wp p e s below Q kc ks (T.setTop (mkF m pc' Ls st))) : Wp p e s below Q kc ks (T.setTop (mkF m pc Ls (.ref b :: st))) := by
  subst hp; exact Wp.step (fun _ k => XS.ifnullNo X.here hx rfl hd rfl k) K
theorem W.acmpE (X : Stand p l e R s m args below meth c T locs cells slots) (hx : p.tables.exec = Jvm.exec) {o : Int} {x y : Value} (pcT pcF : Nat) (h1 : x.isRef = true) (h2 : y.isRef = true) (hd : decode c.code pc = .ok (.if_acmp .eq o, 3)) (ho : 0 ≤ (pc : Int) + o) (hp : ((pc : Int) + o).toNat = pcT) (hq : pc + 3 = pcF) (KT : x = y → Wp p e s below Q kc ks (T.setTop (mkF m pcT Ls st))) (KF : ¬ x = y → Wp p e s below Q kc ks (T.setTop (mkF m pcF Ls st))) : Wp p e s below Q kc ks (T.setTop (mkF m pc Ls (y :: x :: st))) := by
  by_cases q : x = y
  · exact Wp.step (fun _ k => acmp X hx (g := mkF m pc Ls (y :: x :: st)) rfl h1 h2 rfl hd rfl (same := true) (by simp [q]) ho (pc' := pcT) (by simp [acV, hp]) k) (KT q)
  · exact Wp.step (fun _ k => acmp X hx (g := mkF m pc Ls (y :: x :: st)) rfl h1 h2 rfl hd rfl (same := false) (by simp [q]) ho (pc' := pcF) (by simp [acV, hq]) k) (KF q)
theorem W.acmpN (X : Stand p l e R s m args below meth c T locs cells slots) (hx : p.tables.exec = Jvm.exec) {o : Int} {x y : Value} (pcT pcF : Nat) (h1 : x.isRef = true) (h2 : y.isRef = true) (hd : decode c.code pc = .ok (.if_acmp .ne o, 3)) (ho : 0 ≤ (pc : Int) + o) (hp : ((pc : Int) + o).toNat = pcT) (hq : pc + 3 = pcF) (KT : ¬ x = y → Wp p e s below Q kc ks (T.setTop (mkF m pcT Ls st))) (KF : x = y → Wp p e s below Q kc ks (T.setTop (mkF m pcF Ls st))) : Wp p e s below Q kc ks (T.setTop (mkF m pc Ls (y :: x :: st))) := by
  by_cases q : x = y
  · exact Wp.step (fun _ k => acmp X hx (g := mkF m pc Ls (y :: x :: st)) rfl h1 h2 rfl hd rfl (same := true) (by simp [q]) ho (pc' := pcF) (by simp [acV, hq]) k) (KF q)
  · exact Wp.step (fun _ k => acmp X hx (g := mkF m pc Ls (y :: x :: st)) rfl h1 h2 rfl hd rfl (same := false) (by simp [q]) ho (pc' := pcT) (by simp [acV, hp]) k) (KT q)
theorem W.newarr (X : Stand p l e R s m args below meth c T locs cells slots) (hx : p.tables.exec = Jvm.exec) (hZ : Z.Warmed39 s.vm) {aty : ArrayType} {z : Int32} (pc' : Nat) (k cap : Nat) (w : (Jvm.Cond.arrayClass (newarray.typeOf aty)).before a0 Z = true) (eT : T.heap = h) (hd : decode c.code pc = .ok (.newarray aty, 2)) (hz : z.toInt = (k : Int)) (hcap : k ≤ cap) (hb : cap * 8 ≤ 536870912) (hc : cells + 1 ≤ R.cells) (hl : slots + cap ≤ R.slots) (hp : pc + 2 = pc')
    (K : ∀ T' h' a, a = h.size → Stand p l e R s m args below meth c T' locs (cells + 1) (slots + cap) → T'.heap = h' → Ext h h' → IArr Z h' a (newarray.typeOf aty) k (fun _ => defaultValue (newarray.typeOf aty)) → Wp p e s below Q kc ks (T'.setTop (mkF m pc' Ls (.ref a :: st)))) : Wp p e s below Q kc ks (T.setTop (mkF m pc Ls (.int z :: st))) := by
  subst hp
  obtain ⟨q1, q2⟩ := nat_of hz
  obtain ⟨T', h', cA, X', e', E, A, stp⟩ := newP X hx hZ w eT (g := mkF m pc Ls (.int z :: st)) rfl hd rfl q1 (cap := cap) (by omega) hb hc hl
  exact Wp.step stp (K T' h' _ rfl X' e' E (IArr.fresh A q2))
theorem IArr.inb {j : Int32} {i : Nat} {cl : Cell} (S : cl.slots.size = n) (hj : j.toInt = (i : Int)) (hi : i < n) : ¬ (j < 0 ∨ cl.slots.size ≤ j.toNatClampNeg) := by
  obtain ⟨q1, q2⟩ := nat_of hj
  rw [S, q2]; intro q; rcases q with q | q
  · exact q1 q
  · omega
theorem W.arrlen (X : Stand p l e R s m args below meth c T locs cells slots) (hx : p.tables.exec = Jvm.exec) (hZ : Z.Warmed39 s.vm) (pc' : Nat) (eT : T.heap = h) (A : IArr Z h a ty n f) (v : Int32) (hv : n.toInt32 = v) (hd : decode c.code pc = .ok (.arraylength, 1)) (hp : pc + 1 = pc') (K : Wp p e s below Q kc ks (T.setTop (mkF m pc' Ls (.int v :: st)))) : Wp p e s below Q kc ks (T.setTop (mkF m pc Ls (.ref a :: st))) := by
  subst hp hv
  obtain ⟨cl, A, S, H⟩ := A
  subst S
  exact Wp.step (fun t k => X.arraylength hx (by rw [eT]; exact A.1) (State.isArrayOf_alike hZ.alike A.2.1) (g := mkF m pc Ls (.ref a :: st)) rfl rfl hd t k) K
theorem W.iaload (X : Stand p l e R s m args below meth c T locs cells slots) (hx : p.tables.exec = Jvm.exec) (hZ : Z.Warmed39 s.vm) {j : Int32} (pc' : Nat) (i : Nat) (v : Value) (eT : T.heap = h) (A : IArr Z h a .int n f) (hj : j.toInt = (i : Int)) (hi : i < n) (hv : f i = v) (hd : decode c.code pc = .ok (.iaload, 1)) (hp : pc + 1 = pc') (K : Wp p e s below Q kc ks (T.setTop (mkF m pc' Ls (v :: st)))) : Wp p e s below Q kc ks (T.setTop (mkF m pc Ls (.int j :: .ref a :: st))) := by
  subst hp hv
  obtain ⟨cl, A, S, H⟩ := A
  exact Wp.step (fun t k => X.iaload hx (by rw [eT]; exact A.1) (State.isArrayOf_alike hZ.alike A.2.1) A.2.2 (IArr.inb S hj hi) (by rw [(nat_of hj).2]; exact H i hi) (g := mkF m pc Ls (.int j :: .ref a :: st)) rfl rfl hd t k) K
theorem W.laload (X : Stand p l e R s m args below meth c T locs cells slots) (hx : p.tables.exec = Jvm.exec) (hZ : Z.Warmed39 s.vm) {j : Int32} (pc' : Nat) (i : Nat) (v : Value) (eT : T.heap = h) (A : IArr Z h a .long n f) (hj : j.toInt = (i : Int)) (hi : i < n) (hv : f i = v) (hd : decode c.code pc = .ok (.laload, 1)) (hp : pc + 1 = pc') (K : Wp p e s below Q kc ks (T.setTop (mkF m pc' Ls (v :: st)))) : Wp p e s below Q kc ks (T.setTop (mkF m pc Ls (.int j :: .ref a :: st))) := by
  subst hp hv
  obtain ⟨cl, A, S, H⟩ := A
  exact Wp.step (fun t k => X.laload hx (by rw [eT]; exact A.1) (State.isArrayOf_alike hZ.alike A.2.1) A.2.2 (IArr.inb S hj hi) (by rw [(nat_of hj).2]; exact H i hi) (g := mkF m pc Ls (.int j :: .ref a :: st)) rfl rfl hd t k) K
theorem W.caload (X : Stand p l e R s m args below meth c T locs cells slots) (hx : p.tables.exec = Jvm.exec) (hZ : Z.Warmed39 s.vm) {j : Int32} (pc' : Nat) (i : Nat) (v : Value) (eT : T.heap = h) (A : IArr Z h a .char n f) (hj : j.toInt = (i : Int)) (hi : i < n) (hv : f i = v) (hd : decode c.code pc = .ok (.caload, 1)) (hp : pc + 1 = pc') (K : Wp p e s below Q kc ks (T.setTop (mkF m pc' Ls (v :: st)))) : Wp p e s below Q kc ks (T.setTop (mkF m pc Ls (.int j :: .ref a :: st))) := by
  subst hp hv
  obtain ⟨cl, A, S, H⟩ := A
  exact Wp.step (fun t k => X.caload hx (by rw [eT]; exact A.1) (State.isArrayOf_alike hZ.alike A.2.1) A.2.2 (IArr.inb S hj hi) (by rw [(nat_of hj).2]; exact H i hi) (g := mkF m pc Ls (.int j :: .ref a :: st)) rfl rfl hd t k) K
theorem W.baload (X : Stand p l e R s m args below meth c T locs cells slots) (hx : p.tables.exec = Jvm.exec) (hZ : Z.Warmed39 s.vm) {j : Int32} (pc' : Nat) (i : Nat) (v : Value) (eT : T.heap = h) (A : IArr Z h a .byte n f) (hj : j.toInt = (i : Int)) (hi : i < n) (hv : f i = v) (hd : decode c.code pc = .ok (.baload, 1)) (hp : pc + 1 = pc') (K : Wp p e s below Q kc ks (T.setTop (mkF m pc' Ls (v :: st)))) : Wp p e s below Q kc ks (T.setTop (mkF m pc Ls (.int j :: .ref a :: st))) := by
  subst hp hv
  obtain ⟨cl, A, S, H⟩ := A
  exact Wp.step (fun t k => X.baloadBytes hx (by rw [eT]; exact A.1) (State.isArrayOf_alike hZ.alike A.2.1) A.2.2 (IArr.inb S hj hi) (by rw [(nat_of hj).2]; exact H i hi) (g := mkF m pc Ls (.int j :: .ref a :: st)) rfl rfl hd t k) K
theorem W.zaload (X : Stand p l e R s m args below meth c T locs cells slots) (hx : p.tables.exec = Jvm.exec) (hZ : Z.Warmed39 s.vm) {j : Int32} (pc' : Nat) (i : Nat) (v : Value) (eT : T.heap = h) (A : IArr Z h a .boolean n f) (hj : j.toInt = (i : Int)) (hi : i < n) (hv : f i = v) (hd : decode c.code pc = .ok (.baload, 1)) (hp : pc + 1 = pc') (K : Wp p e s below Q kc ks (T.setTop (mkF m pc' Ls (v :: st)))) : Wp p e s below Q kc ks (T.setTop (mkF m pc Ls (.int j :: .ref a :: st))) := by
  subst hp hv
  obtain ⟨cl, A, S, H⟩ := A
  exact Wp.step (fun t k => X.baloadBooleans hx (by rw [eT]; exact A.1) (State.isArrayOf_alike hZ.alike A.2.1) A.2.2 (IArr.inb S hj hi) (by rw [(nat_of hj).2]; exact H i hi) (g := mkF m pc Ls (.int j :: .ref a :: st)) rfl rfl hd t k) K
theorem W.aaload (X : Stand p l e R s m args below meth c T locs cells slots) (hx : p.tables.exec = Jvm.exec) (hZ : Z.Warmed39 s.vm) {j : Int32} (pc' : Nat) (i : Nat) (v : Value) (eT : T.heap = h) (A : IArr Z h a ty n f) (hty : ty.isReference = true) (hj : j.toInt = (i : Int)) (hi : i < n) (hv : f i = v) (hd : decode c.code pc = .ok (.aaload, 1)) (hp : pc + 1 = pc') (K : Wp p e s below Q kc ks (T.setTop (mkF m pc' Ls (v :: st)))) : Wp p e s below Q kc ks (T.setTop (mkF m pc Ls (.int j :: .ref a :: st))) := by
  subst hp hv
  obtain ⟨cl, A, S, H⟩ := A
  exact Wp.step (fun t k => X.aaload hx (by rw [eT]; exact A.1) (State.isArrayOf_alike hZ.alike A.2.1) hty A.2.2 (IArr.inb S hj hi) (by rw [(nat_of hj).2]; exact H i hi) (g := mkF m pc Ls (.int j :: .ref a :: st)) rfl rfl hd t k) K
theorem W.iastore (X : Stand p l e R s m args below meth c T locs cells slots) (hx : p.tables.exec = Jvm.exec) (hZ : Z.Warmed39 s.vm) {j : Int32} {x : Int32} (pc' : Nat) (i : Nat) (eT : T.heap = h) (A : IArr Z h a .int n f) (hj : j.toInt = (i : Int)) (hi : i < n) (hd : decode c.code pc = .ok (.iastore, 1)) (hp : pc + 1 = pc')
    (K : ∀ T' h', Stand p l e R s m args below meth c T' (locs ++ [⟨a, i⟩]) cells slots → T'.heap = h' → Wr h h' a i (.int x) → IArr Z h' a .int n (upd f i (.int x)) → Wp p e s below Q kc ks (T'.setTop (mkF m pc' Ls st))) : Wp p e s below Q kc ks (T.setTop (mkF m pc Ls (.int x :: .int j :: .ref a :: st))) := by
  subst hp
  obtain ⟨cl, A0, S, H⟩ := A
  obtain ⟨T', h', X', e', W, stp⟩ := stI X hx hZ eT A0 (IArr.inb S hj hi) (g := mkF m pc Ls (.int x :: .int j :: .ref a :: st)) rfl rfl hd
  rw [(nat_of hj).2] at X' W
  exact Wp.step stp (K T' h' X' e' W (IArr.same ⟨cl, A0, S, H⟩ W))
theorem W.lastore (X : Stand p l e R s m args below meth c T locs cells slots) (hx : p.tables.exec = Jvm.exec) (hZ : Z.Warmed39 s.vm) {j : Int32} {x : Int64} (pc' : Nat) (i : Nat) (eT : T.heap = h) (A : IArr Z h a .long n f) (hj : j.toInt = (i : Int)) (hi : i < n) (hd : decode c.code pc = .ok (.lastore, 1)) (hp : pc + 1 = pc')
    (K : ∀ T' h', Stand p l e R s m args below meth c T' (locs ++ [⟨a, i⟩]) cells slots → T'.heap = h' → Wr h h' a i (.long x) → IArr Z h' a .long n (upd f i (.long x)) → Wp p e s below Q kc ks (T'.setTop (mkF m pc' Ls st))) : Wp p e s below Q kc ks (T.setTop (mkF m pc Ls (.long x :: .int j :: .ref a :: st))) := by
  subst hp
  obtain ⟨cl, A0, S, H⟩ := A
  obtain ⟨T', h', X', e', W, stp⟩ := stJ X hx hZ eT A0 (IArr.inb S hj hi) (g := mkF m pc Ls (.long x :: .int j :: .ref a :: st)) rfl rfl hd
  rw [(nat_of hj).2] at X' W
  exact Wp.step stp (K T' h' X' e' W (IArr.same ⟨cl, A0, S, H⟩ W))
theorem W.castore (X : Stand p l e R s m args below meth c T locs cells slots) (hx : p.tables.exec = Jvm.exec) (hZ : Z.Warmed39 s.vm) {j : Int32} {x : Int32} (pc' : Nat) (i : Nat) (eT : T.heap = h) (A : IArr Z h a .char n f) (hj : j.toInt = (i : Int)) (hi : i < n) (hd : decode c.code pc = .ok (.castore, 1)) (hp : pc + 1 = pc')
    (K : ∀ T' h', Stand p l e R s m args below meth c T' (locs ++ [⟨a, i⟩]) cells slots → T'.heap = h' → Wr h h' a i (.int (nar .char x)) → IArr Z h' a .char n (upd f i (.int (nar .char x))) → Wp p e s below Q kc ks (T'.setTop (mkF m pc' Ls st))) : Wp p e s below Q kc ks (T.setTop (mkF m pc Ls (.int x :: .int j :: .ref a :: st))) := by
  subst hp
  obtain ⟨cl, A0, S, H⟩ := A
  obtain ⟨T', h', X', e', W, stp⟩ := stC X hx hZ eT A0 (IArr.inb S hj hi) (g := mkF m pc Ls (.int x :: .int j :: .ref a :: st)) rfl rfl hd
  rw [(nat_of hj).2] at X' W
  exact Wp.step stp (K T' h' X' e' W (IArr.same ⟨cl, A0, S, H⟩ W))
theorem W.bastore (X : Stand p l e R s m args below meth c T locs cells slots) (hx : p.tables.exec = Jvm.exec) (hZ : Z.Warmed39 s.vm) {j : Int32} {x : Int32} (pc' : Nat) (i : Nat) (eT : T.heap = h) (A : IArr Z h a .byte n f) (hj : j.toInt = (i : Int)) (hi : i < n) (hd : decode c.code pc = .ok (.bastore, 1)) (hp : pc + 1 = pc')
    (K : ∀ T' h', Stand p l e R s m args below meth c T' (locs ++ [⟨a, i⟩]) cells slots → T'.heap = h' → Wr h h' a i (.int (nar .byte x)) → IArr Z h' a .byte n (upd f i (.int (nar .byte x))) → Wp p e s below Q kc ks (T'.setTop (mkF m pc' Ls st))) : Wp p e s below Q kc ks (T.setTop (mkF m pc Ls (.int x :: .int j :: .ref a :: st))) := by
  subst hp
  obtain ⟨cl, A0, S, H⟩ := A
  obtain ⟨T', h', X', e', W, stp⟩ := stB X hx hZ eT A0 (IArr.inb S hj hi) (g := mkF m pc Ls (.int x :: .int j :: .ref a :: st)) rfl rfl hd
  rw [(nat_of hj).2] at X' W
  exact Wp.step stp (K T' h' X' e' W (IArr.same ⟨cl, A0, S, H⟩ W))
theorem W.zastore (X : Stand p l e R s m args below meth c T locs cells slots) (hx : p.tables.exec = Jvm.exec) (hZ : Z.Warmed39 s.vm) {j : Int32} {x : Int32} (pc' : Nat) (i : Nat) (eT : T.heap = h) (A : IArr Z h a .boolean n f) (hj : j.toInt = (i : Int)) (hi : i < n) (hd : decode c.code pc = .ok (.bastore, 1)) (hp : pc + 1 = pc')
    (K : ∀ T' h', Stand p l e R s m args below meth c T' (locs ++ [⟨a, i⟩]) cells slots → T'.heap = h' → Wr h h' a i (.int (nar .boolean x)) → IArr Z h' a .boolean n (upd f i (.int (nar .boolean x))) → Wp p e s below Q kc ks (T'.setTop (mkF m pc' Ls st))) : Wp p e s below Q kc ks (T.setTop (mkF m pc Ls (.int x :: .int j :: .ref a :: st))) := by
  subst hp
  obtain ⟨cl, A0, S, H⟩ := A
  obtain ⟨T', h', X', e', W, stp⟩ := stZ X hx hZ eT A0 (IArr.inb S hj hi) (g := mkF m pc Ls (.int x :: .int j :: .ref a :: st)) rfl rfl hd
  rw [(nat_of hj).2] at X' W
  exact Wp.step stp (K T' h' X' e' W (IArr.same ⟨cl, A0, S, H⟩ W))
theorem W.getS (X : Stand p l e R s m args below meth c T locs cells slots) (hx : p.tables.exec = Jvm.exec) (hZ : Z.Warmed39 s.vm) {own R0 O nm d : String} {index : Nat} {v : Value} (pc' : Nat) (hown : s.vm.findClass own = some m.cls) (w : (Jvm.Cond.fieldLink own index R0 nm d).before a0 Z = true) (via : Via Z R0 O nm d) (eT : T.heap = h) (F : Sta Z h O nm d v) (hd : decode c.code pc = .ok (.getstatic index, 3)) (hp : pc + 3 = pc')
    (K : ∀ T', Stand p l e R s m args below meth c T' locs cells slots → T'.heap = h → Wp p e s below Q kc ks (T'.setTop (mkF m pc' Ls (v :: st)))) : Wp p e s below Q kc ks (T.setTop (mkF m pc Ls st)) := by
  subst hp
  obtain ⟨T', X', e', stp⟩ := Jvm.RoadKit.getS X hx hZ (host := "") hown w via eT F (g := mkF m pc Ls st) rfl hd
  exact Wp.step stp (K T' X' e')
theorem W.getF (X : Stand p l e R s m args below meth c T locs cells slots) (hx : p.tables.exec = Jvm.exec) (hZ : Z.Warmed39 s.vm) {own R0 O nm d : String} {index : Nat} {v : Value} (pc' : Nat) (hown : s.vm.findClass own = some m.cls) (w : (Jvm.Cond.fieldLink own index R0 nm d).before a0 Z = true) (via : Via Z R0 O nm d) (eT : T.heap = h) (F : Fld Z h a O nm d v) (hd : decode c.code pc = .ok (.getfield index, 3)) (hp : pc + 3 = pc')
    (K : ∀ T', Stand p l e R s m args below meth c T' locs cells slots → T'.heap = h → Wp p e s below Q kc ks (T'.setTop (mkF m pc' Ls (v :: st)))) : Wp p e s below Q kc ks (T.setTop (mkF m pc Ls (.ref a :: st))) := by
  subst hp
  obtain ⟨T', X', e', stp⟩ := Jvm.RoadKit.getF X hx hZ (host := "") hown (Or.inl w) via eT F (g := mkF m pc Ls (.ref a :: st)) rfl rfl hd
  exact Wp.step stp (K T' X' e')
theorem W.putF (X : Stand p l e R s m args below meth c T locs cells slots) (hx : p.tables.exec = Jvm.exec) (hZ : Z.Warmed39 s.vm) {own R0 O nm d C : String} {index kk : Nat} {v old : Value} {ty : FieldType} (pc' : Nat) (hown : s.vm.findClass own = some m.cls) (w : (Jvm.Cond.fieldLink own index R0 nm d).before a0 Z = true) (via : Via Z R0 O nm d) (eT : T.heap = h) (F : Fld Z h a O nm d old) (E : Exa Z h a C) (L : (Jvm.Cond.lays C O nm d).before a0 Z = true ∨ ((Jvm.Cond.laysFinal C O nm d).before a0 Z = true ∧ own = O ∧ meth.name = "<init>")) (wi : (Jvm.Cond.instantiable C kk).before a0 Z = true)
    (hty : parseFieldDescriptor d = some ty) (hn : narrow ty v = v) (hf : fits ty v = true) (hd : decode c.code pc = .ok (.putfield index, 3)) (hp : pc + 3 = pc')
    (K : ∀ T' h', Stand p l e R s m args below meth c T' (locs ++ [⟨a, Jvm.RoadKit.slotOf Z O nm d⟩]) cells slots → T'.heap = h' → Wr h h' a (Jvm.RoadKit.slotOf Z O nm d) v → Fld Z h' a O nm d v → Wp p e s below Q kc ks (T'.setTop (mkF m pc' Ls st))) : Wp p e s below Q kc ks (T.setTop (mkF m pc Ls (v :: .ref a :: st))) := by
  subst hp
  obtain ⟨T', h', X', e', W, stp⟩ := Jvm.RoadKit.putF X hx hZ hown (host := "") (Or.inl w) via eT F E L wi hty hn hf (g := mkF m pc Ls (v :: .ref a :: st)) rfl rfl hd
  exact Wp.step stp (K T' h' X' e' W (F.same W))
theorem W.newO (X : Stand p l e R s m args below meth c T locs cells slots) (hx : p.tables.exec = Jvm.exec) (hZ : Z.Warmed39 s.vm) {own C : String} {index k : Nat} (pc' : Nat) (hown : s.vm.findClass own = some m.cls) (w : (Jvm.Cond.classLink own index C).before a0 Z = true) (wi : (Jvm.Cond.instantiable C k).before a0 Z = true) (wz : (Jvm.Cond.initialized C).before a0 Z = true) (eT : T.heap = h) (hd : decode c.code pc = .ok (.new index, 3)) (hc : cells + 1 ≤ R.cells) (hl : slots + k ≤ R.slots) (hp : pc + 3 = pc')
    (K : ∀ T' h' a, a = h.size → Stand p l e R s m args below meth c T' locs (cells + 1) (slots + k) → T'.heap = h' → Ext h h' → Exa Z h' a C → (∀ {O nm d : String} {ty : FieldType}, Laid Z a0 C O nm d → parseFieldDescriptor d = some ty → Fld Z h' a O nm d (defaultValue ty)) → Wp p e s below Q kc ks (T'.setTop (mkF m pc' Ls (.ref a :: st)))) : Wp p e s below Q kc ks (T.setTop (mkF m pc Ls st)) := by
  subst hp
  obtain ⟨T', h', X', e', E, A, D, -, stp⟩ := Jvm.RoadKit.newO X hx hZ hown w wi wz eT (g := mkF m pc Ls st) rfl hd hc hl
  exact Wp.step stp (K T' h' _ rfl X' e' E A D)
theorem W.initO (X : Stand p l e R s m args below meth c T locs cells slots) (hx : p.tables.exec = Jvm.exec) (hZ : Z.Warmed39 s.vm) {own : String} {idx : Nat} (pc' W : Nat) (hown : s.vm.findClass own = some m.cls) (w1 : (Jvm.Cond.methodLink own idx Lib.objectInit).before a0 Z = true) (w2 : (Jvm.Cond.instanceMethod Lib.objectInit).before a0 Z = true) (w3 : (Jvm.Cond.code Lib.objectInit ⟨#[0xb1]⟩ 1 none).before a0 Z = true) (eT : T.heap = h) (hsz : Ls.size = c.maxLocals) (hd : decode c.code pc = .ok (.invokespecial idx, 3)) (hf : 1 ≤ R.frames) (hW : (st.map fun v => v.category).sum = W) (hl : W + 12 ≤ R.locals) (hp : pc + 3 = pc')
    (K : ∀ T', Stand p l e R s m args below meth c T' locs cells slots → T'.heap = h → Wp p e s below Q kc ks (T'.setTop (mkF m pc' Ls st))) : Wp p e s below Q kc ks (T.setTop (mkF m pc Ls (.ref a :: st))) := by
  subst hp
  obtain ⟨T', X', e', stp⟩ := Jvm.RoadKit.initO X hx hZ hown w1 w2 w3 eT (g := mkF m pc Ls (.ref a :: st)) rfl hsz rfl hd hf (W := W) (by show 2 * 0 + _ ≤ _; omega) hl
  exact Wp.step stp (K T' X' e')
/-! calls -/
theorem W.callS (X : Stand p l e R s m args below meth c T locs cells slots) (hx : p.tables.exec = Jvm.exec) (hZ : Z.Warmed39 s.vm) {own : String} {index : Nat} {y : MethodName} {bytes : ByteArray} {maxL : Nat} {ret : Option FieldType} {rm : Room} {Qc : Option Value → Heap → List Loc → Prop} {ps : List FieldType} {r : Option FieldType} {stk : List Value} (pc' W : Nat) (argsL : List Value)
    (hown : s.vm.findClass own = some m.cls) (w1 : (Jvm.Cond.methodLink own index y).before a0 Z = true) (w2 : (Jvm.Cond.static y).before a0 Z = true) (w3 : (Jvm.Cond.initialized y.cls).before a0 Z = true) (w4 : (Jvm.Cond.code y bytes maxL ret).before a0 Z = true) (hy : y.cls ≠ "java/lang/invoke/MethodHandle" ∧ y.cls ≠ "java/lang/invoke/VarHandle")
    (hpd : parseMethodDescriptor y.desc = some ⟨ps, r⟩) (hlen : argsL.length = ps.length) (eT : T.heap = h) (hM : Con l Z y bytes maxL ret [] rm argsL.toArray h Qc) (hd : decode c.code pc = .ok (.invokestatic index, 3)) (hsz : Ls.size = c.maxLocals) (hstk : stk = argsL.reverse ++ rest) (hW : (rest.map fun v => v.category).sum = W)
    (hf : rm.frames + 1 ≤ R.frames) (hl : W + (maxL + 11) + rm.locals ≤ R.locals) (hc : cells + rm.cells ≤ R.cells) (hsl : slots + rm.slots ≤ R.slots) (hp : pc + 3 = pc')
    (K : ∀ v T' L, Stand p l e R s m args below meth c T' (locs ++ L) (cells + rm.cells) (slots + rm.slots) → Qc v T'.heap L → Wp p e s below Q kc ks (T'.setTop (mkF m pc' Ls (v.toList ++ rest)))) : Wp p e s below Q kc ks (T.setTop (mkF m pc Ls stk)) := by
  subst hp hstk
  obtain ⟨v, vm₁, ⟨T', L', k', n'⟩, -, X', ⟨Lc, hQ, l1, l2, l3⟩, stp⟩ := Jvm.LawKit.callS X hx (y := y) hown (mvT hZ w1) (mvT hZ w2) (mvT hZ w3) (mvT hZ w4) hy (backOf (W := W) hM hZ w4 w3 hf hl) (g := mkF m pc Ls (argsL.reverse ++ rest)) rfl hsz (argsL := argsL) (rest := rest) (lenOf hpd hlen) rfl (by show 2 * 0 + _ ≤ _; omega) hd (fun _ _ => ⟨rfl, eT, hc, hsl⟩)
  dsimp only [Pt.U, Pt.locs, Pt.cells, Pt.slots] at X' l1 l2 l3 stp hQ
  subst l1 l2 l3
  exact Wp.step stp (K v T' Lc X' hQ)
theorem W.callI (X : Stand p l e R s m args below meth c T locs cells slots) (hx : p.tables.exec = Jvm.exec) (hZ : Z.Warmed39 s.vm) {own : String} {index : Nat} {y : MethodName} {bytes : ByteArray} {maxL : Nat} {rm : Room} {Qc : Option Value → Heap → List Loc → Prop} {ps : List FieldType} {r : Option FieldType} {stk : List Value} (pc' W : Nat) (b : Addr) (argsL : List Value) (hy1 : y.name = "<init>")
    (hown : s.vm.findClass own = some m.cls) (w1 : (Jvm.Cond.methodLink own index y).before a0 Z = true) (w2 : (Jvm.Cond.instanceMethod y).before a0 Z = true) (w3 : (Jvm.Cond.initialized y.cls).before a0 Z = true) (w4 : (Jvm.Cond.code y bytes maxL none).before a0 Z = true) (hy : y.cls ≠ "java/lang/invoke/MethodHandle" ∧ y.cls ≠ "java/lang/invoke/VarHandle")
    (hpd : parseMethodDescriptor y.desc = some ⟨ps, r⟩) (hlen : argsL.length = ps.length) (eT : T.heap = h) (hM : Con l Z y bytes maxL none [] rm (.ref b :: argsL).toArray h Qc) (hd : decode c.code pc = .ok (.invokespecial index, 3)) (hsz : Ls.size = c.maxLocals) (hstk : stk = argsL.reverse ++ .ref b :: rest) (hW : (rest.map fun v => v.category).sum = W)
    (hf : rm.frames + 1 ≤ R.frames) (hl : W + (maxL + 11) + rm.locals ≤ R.locals) (hc : cells + rm.cells ≤ R.cells) (hsl : slots + rm.slots ≤ R.slots) (hp : pc + 3 = pc')
    (K : ∀ v T' L, Stand p l e R s m args below meth c T' (locs ++ L) (cells + rm.cells) (slots + rm.slots) → Qc v T'.heap L → Wp p e s below Q kc ks (T'.setTop (mkF m pc' Ls (v.toList ++ rest)))) : Wp p e s below Q kc ks (T.setTop (mkF m pc Ls stk)) := by
  subst hp hstk
  obtain ⟨v, vm₁, ⟨T', L', k', n'⟩, -, X', ⟨Lc, hQ, l1, l2, l3⟩, stp⟩ := X.specialBack hx (y := y) hy1 hown (mvT hZ w1) (mvT hZ w2) (mvT hZ w4) hy (backOf (W := W) hM hZ w4 w3 hf hl) (g := mkF m pc Ls (argsL.reverse ++ .ref b :: rest)) rfl hsz (Steps.refl _) (a := b) (argsL := argsL) (rest := rest) (lenOf hpd hlen) rfl (by show 2 * 0 + _ ≤ _; omega) hd (fun _ _ => ⟨rfl, eT, hc, hsl⟩)
  dsimp only [Pt.U, Pt.locs, Pt.cells, Pt.slots] at X' l1 l2 l3 stp hQ
  subst l1 l2 l3
  exact Wp.chain stp (K v T' Lc X' hQ)
theorem W.callV (X : Stand p l e R s m args below meth c T locs cells slots) (hx : p.tables.exec = Jvm.exec) (hZ : Z.Warmed39 s.vm) {own C : String} {index : Nat} {y : MethodName} {bytes : ByteArray} {maxL : Nat} {ret : Option FieldType} {rm : Room} {Qc : Option Value → Heap → List Loc → Prop} {ps : List FieldType} {r : Option FieldType} {stk : List Value} (pc' W : Nat) (b : Addr) (argsL : List Value)
    (hown : s.vm.findClass own = some m.cls) (w1 : (Jvm.Cond.methodLink own index y).before a0 Z = true) (w2 : (Jvm.Cond.declares y).before a0 Z = true) (w5 : (Jvm.Cond.selects C y y).before a0 Z = true) (w6 : (Jvm.Cond.instanceMethod y).before a0 Z = true) (w3 : (Jvm.Cond.initialized y.cls).before a0 Z = true) (w4 : (Jvm.Cond.code y bytes maxL ret).before a0 Z = true) (hy : y.cls ≠ "java/lang/invoke/MethodHandle" ∧ y.cls ≠ "java/lang/invoke/VarHandle")
    (hpd : parseMethodDescriptor y.desc = some ⟨ps, r⟩) (hlen : argsL.length = ps.length) (eT : T.heap = h) (E : Exa Z h b C) (hM : Con l Z y bytes maxL ret [] rm (.ref b :: argsL).toArray h Qc) (hd : decode c.code pc = .ok (.invokevirtual index, 3)) (hsz : Ls.size = c.maxLocals) (hstk : stk = argsL.reverse ++ .ref b :: rest) (hW : (rest.map fun v => v.category).sum = W)
    (hf : rm.frames + 1 ≤ R.frames) (hl : W + (maxL + 11) + rm.locals ≤ R.locals) (hc : cells + rm.cells ≤ R.cells) (hsl : slots + rm.slots ≤ R.slots) (hp : pc + 3 = pc')
    (K : ∀ v T' L, Stand p l e R s m args below meth c T' (locs ++ L) (cells + rm.cells) (slots + rm.slots) → Qc v T'.heap L → Wp p e s below Q kc ks (T'.setTop (mkF m pc' Ls (v.toList ++ rest)))) : Wp p e s below Q kc ks (T.setTop (mkF m pc Ls stk)) := by
  subst hp hstk
  obtain ⟨cq, kq, qa, qb, qc⟩ := isOf hZ eT E
  obtain ⟨v, vm₁, ⟨T', L', k', n'⟩, -, X', ⟨Lc, hQ, l1, l2, l3⟩, stp⟩ := X.virtualBack hx (y := y) (z := y) hown (mvT hZ w1) (mvT hZ w2) (notFace_of_selects (args := args) (mvT hZ w5)) (mvT hZ w5) (mvT hZ w6) hy (backOf (W := W) hM hZ w4 w3 hf hl) qa qc (g := mkF m pc Ls (argsL.reverse ++ .ref b :: rest)) rfl hsz (Steps.refl _) (argsL := argsL) (rest := rest) (lenOf hpd hlen) rfl (by show 2 * 0 + _ ≤ _; omega) hd (fun _ _ => ⟨rfl, eT, hc, hsl⟩)
  dsimp only [Pt.U, Pt.locs, Pt.cells, Pt.slots] at X' l1 l2 l3 stp hQ
  subst l1 l2 l3
  exact Wp.chain stp (K v T' Lc X' hQ)
theorem ext_refl (h : Heap) : Ext h h := ⟨Nat.le_refl _, fun _ _ q => q⟩
theorem ext_trans {h1 h2 h3 : Heap} (E : Ext h1 h2) (E' : Ext h2 h3) : Ext h1 h3 := ⟨Nat.le_trans E.1 E'.1, fun a c q => E'.2 a c (E.2 a c q)⟩
theorem ext_wr {h0 : Heap} {sl : Nat} {v : Value} (E : Ext h0 h) (W : Wr h h' a sl v) (q : h0.size ≤ a) : Ext h0 h' := by
  refine ⟨by rw [W.size]; exact E.1, fun x cx hx => ?_⟩
  obtain ⟨c', e1, -, -, -, e5, -⟩ := wr_at W (E.2 x cx hx)
  rw [e1, e5 (fun z => by subst z; exact absurd (Array.getElem?_eq_some_iff.mp hx).1 (Nat.not_lt.mpr q))]
theorem ext_keep {h0 : Heap} {ws : List Addr} (E : Ext h0 h) (K : Keep h h' ws) (q : ∀ x ∈ ws, h0.size ≤ x) : Ext h0 h' :=
  ⟨Nat.le_trans E.1 K.1, fun x cx hx => K.2.1 x cx (E.2 x cx hx) fun z => absurd (Array.getElem?_eq_some_iff.mp hx).1 (Nat.not_lt.mpr (q x z))⟩
/-! switches -/
theorem W.lswHit (X : Stand p l e R s m args below meth c T locs cells slots) (hx : p.tables.exec = Jvm.exec) {k : Int32} {dflt : Int} {pairs : Array (Int × Int)} {len : Nat} (pc' : Nat) (y off : Int) (hd : decode c.code pc = .ok (.lookupswitch dflt pairs, len)) (hso : (pairs.toList.zip (pairs.toList.drop 1)).all (fun (a, next) => a.1 < next.1) = true) (hf : pairs.find? (·.1 == k.toInt) = some (y, off)) (ho : 0 ≤ (pc : Int) + off) (hp : ((pc : Int) + off).toNat = pc') (K : Wp p e s below Q kc ks (T.setTop (mkF m pc' Ls st))) : Wp p e s below Q kc ks (T.setTop (mkF m pc Ls (.int k :: st))) := by
  subst hp; exact Wp.step (fun t q => X.lookupswitchHit hx (g := mkF m pc Ls (.int k :: st)) rfl rfl hd hso hf ho t q) K
theorem W.lswMiss (X : Stand p l e R s m args below meth c T locs cells slots) (hx : p.tables.exec = Jvm.exec) {k : Int32} {dflt : Int} {pairs : Array (Int × Int)} {len : Nat} (pc' : Nat) (hd : decode c.code pc = .ok (.lookupswitch dflt pairs, len)) (hso : (pairs.toList.zip (pairs.toList.drop 1)).all (fun (a, next) => a.1 < next.1) = true) (hf : pairs.find? (·.1 == k.toInt) = none) (ho : 0 ≤ (pc : Int) + dflt) (hp : ((pc : Int) + dflt).toNat = pc') (K : Wp p e s below Q kc ks (T.setTop (mkF m pc' Ls st))) : Wp p e s below Q kc ks (T.setTop (mkF m pc Ls (.int k :: st))) := by
  subst hp; exact Wp.step (fun t q => X.lookupswitchMiss hx (g := mkF m pc Ls (.int k :: st)) rfl rfl hd hso hf ho t q) K
theorem W.tswIn (X : Stand p l e R s m args below meth c T locs cells slots) (hx : p.tables.exec = Jvm.exec) {k : Int32} {dflt low high : Int} {offs : Array Int} {len : Nat} (pc' : Nat) (off : Int) (hd : decode c.code pc = .ok (.tableswitch dflt low high offs, len)) (hi : ¬ (k.toInt < low ∨ k.toInt > high)) (hf : offs[(k.toInt - low).toNat]? = some off) (ho : 0 ≤ (pc : Int) + off) (hp : ((pc : Int) + off).toNat = pc') (K : Wp p e s below Q kc ks (T.setTop (mkF m pc' Ls st))) : Wp p e s below Q kc ks (T.setTop (mkF m pc Ls (.int k :: st))) := by
  subst hp; exact Wp.step (fun t q => X.tableswitchIn hx (g := mkF m pc Ls (.int k :: st)) rfl rfl hd hi hf ho t q) K
/-! arrays of references -/
def Takes (Z : State) (h : Heap) (a : Addr) (C : String) : Prop := ∃ (c : Cell) (ty : FieldType), Arr Z h a c ty ∧ Ovr Z c.cls C
theorem Takes.lt {C : String} (F : Takes Z h a C) : a < h.size := by obtain ⟨c, ty, A, -⟩ := F; exact A.lt
theorem Takes.ext {C : String} (F : Takes Z h a C) (E : Ext h h') : Takes Z h' a C := by obtain ⟨c, ty, A, O⟩ := F; exact ⟨c, ty, A.ext E, O⟩
theorem Takes.wr {C : String} {sl : Nat} {v : Value} (F : Takes Z h a C) (W : Wr h h' b sl v) : Takes Z h' a C := by
  obtain ⟨c, ty, A, O⟩ := F
  by_cases q : a = b
  · subst q; exact ⟨_, ty, A.same W, O⟩
  · exact ⟨c, ty, A.other W q, O⟩
theorem Takes.sto {C : String} {y : Addr} (F : Takes Z h a C) (I : Ins Z h y C true) : Sto Z h a (.ref y) := by obtain ⟨c, ty, A, O⟩ := F; exact Sto.of A O I
theorem W.newR (X : Stand p l e R s m args below meth c T locs cells slots) (hx : p.tables.exec = Jvm.exec) (hZ : Z.Warmed39 s.vm) {own C : String} {index : Nat} {z : Int32} (pc' : Nat) (k cap : Nat) (hown : s.vm.findClass own = some m.cls) (w1 : (Jvm.Cond.classLink own index C).before a0 Z = true) (w2 : (Jvm.Cond.arrayOver (.object C)).before a0 Z = true) (eT : T.heap = h) (hd : decode c.code pc = .ok (.anewarray index, 3)) (hz : z.toInt = (k : Int)) (hcap : k ≤ cap) (hb : cap * 8 ≤ 536870912) (hc : cells + 1 ≤ R.cells) (hl : slots + cap ≤ R.slots) (hp : pc + 3 = pc')
    (K : ∀ T' h' a, a = h.size → Stand p l e R s m args below meth c T' locs (cells + 1) (slots + cap) → T'.heap = h' → Ext h h' → IArr Z h' a (.object C) k (fun _ => defaultValue (.object C)) → Takes Z h' a C → Wp p e s below Q kc ks (T'.setTop (mkF m pc' Ls (.ref a :: st)))) : Wp p e s below Q kc ks (T.setTop (mkF m pc Ls (.int z :: st))) := by
  subst hp
  obtain ⟨q1, q2⟩ := nat_of hz
  obtain ⟨T', h', cA, X', e', E, A, O, stp⟩ := Jvm.RoadKit.newR X hx hZ hown w1 w2 eT (g := mkF m pc Ls (.int z :: st)) rfl hd rfl q1 (cap := cap) (by omega) hb hc hl
  exact Wp.step stp (K T' h' _ rfl X' e' E (IArr.fresh A q2) ⟨_, _, A, O⟩)
theorem W.aastore (X : Stand p l e R s m args below meth c T locs cells slots) (hx : p.tables.exec = Jvm.exec) (hZ : Z.Warmed39 s.vm) {j : Int32} {v : Value} (pc' : Nat) (i : Nat) (eT : T.heap = h) (A : IArr Z h a ty n f) (hty : ty.isReference = true) (F : Sto Z h a v) (hj : j.toInt = (i : Int)) (hi : i < n) (hd : decode c.code pc = .ok (.aastore, 1)) (hp : pc + 1 = pc')
    (K : ∀ T' h', Stand p l e R s m args below meth c T' (locs ++ [⟨a, i⟩]) cells slots → T'.heap = h' → Wr h h' a i v → IArr Z h' a ty n (upd f i v) → Wp p e s below Q kc ks (T'.setTop (mkF m pc' Ls st))) : Wp p e s below Q kc ks (T.setTop (mkF m pc Ls (v :: .int j :: .ref a :: st))) := by
  subst hp
  obtain ⟨cl, A0, S, H⟩ := A
  obtain ⟨T', h', X', e', W, stp⟩ := stR X hx hZ eT A0 (IArr.inb S hj hi) hty F (g := mkF m pc Ls (v :: .int j :: .ref a :: st)) rfl rfl hd
  rw [(nat_of hj).2] at X' W
  exact Wp.step stp (K T' h' X' e' W (IArr.same ⟨cl, A0, S, H⟩ W))
/-! a virtual call whose method is declared in a superclass -/
theorem W.callU (X : Stand p l e R s m args below meth c T locs cells slots) (hx : p.tables.exec = Jvm.exec) (hZ : Z.Warmed39 s.vm) {own C owner : String} {index : Nat} {y z : MethodName} {bytes : ByteArray} {maxL : Nat} {ret : Option FieldType} {rm : Room} {Qc : Option Value → Heap → List Loc → Prop} {ps : List FieldType} {r : Option FieldType} {stk : List Value} (pc' W : Nat) (b : Addr) (argsL : List Value)
    (hown : s.vm.findClass own = some m.cls) (w1 : (Jvm.Cond.methodLink own index y).before a0 Z = true) (w7 : (Jvm.Cond.sameMethod y.cls owner y.name y.desc).before a0 Z = true) (w2 : (Jvm.Cond.declares ⟨owner, y.name, y.desc⟩).before a0 Z = true) (hy : owner ≠ "java/lang/invoke/MethodHandle" ∧ owner ≠ "java/lang/invoke/VarHandle") (w5 : (Jvm.Cond.selects C y z).before a0 Z = true) (w6 : (Jvm.Cond.instanceMethod z).before a0 Z = true) (w3 : (Jvm.Cond.initialized z.cls).before a0 Z = true) (w4 : (Jvm.Cond.code z bytes maxL ret).before a0 Z = true)
    (hpd : parseMethodDescriptor y.desc = some ⟨ps, r⟩) (hlen : argsL.length = ps.length) (eT : T.heap = h) (E : Exa Z h b C) (hM : Con l Z z bytes maxL ret [] rm (.ref b :: argsL).toArray h Qc) (hd : decode c.code pc = .ok (.invokevirtual index, 3)) (hsz : Ls.size = c.maxLocals) (hstk : stk = argsL.reverse ++ .ref b :: rest) (hW : (rest.map fun v => v.category).sum = W)
    (hf : rm.frames + 1 ≤ R.frames) (hl : W + (maxL + 11) + rm.locals ≤ R.locals) (hc : cells + rm.cells ≤ R.cells) (hsl : slots + rm.slots ≤ R.slots) (hp : pc + 3 = pc')
    (K : ∀ v T' L, Stand p l e R s m args below meth c T' (locs ++ L) (cells + rm.cells) (slots + rm.slots) → Qc v T'.heap L → Wp p e s below Q kc ks (T'.setTop (mkF m pc' Ls (v.toList ++ rest)))) : Wp p e s below Q kc ks (T.setTop (mkF m pc Ls stk)) := by
  subst hp hstk
  obtain ⟨cq, kq, qa, qb, qc⟩ := isOf hZ eT E
  obtain ⟨v, vm₁, ⟨T', L', k', n'⟩, -, X', ⟨Lc, hQ, l1, l2, l3⟩, stp⟩ := X.virtualBackUp hx (x := y) (y := z) (owner := owner) hown (mvT hZ w1) (mvT hZ w7) (mvT hZ w2) hy (mvT hZ w5) (mvT hZ w6) (backOf (W := W) hM hZ w4 w3 hf hl) qa qc (g := mkF m pc Ls (argsL.reverse ++ .ref b :: rest)) rfl hsz (Steps.refl _) (argsL := argsL) (rest := rest) (lenOf hpd hlen) rfl (by show 2 * 0 + _ ≤ _; omega) hd (fun _ _ => ⟨rfl, eT, hc, hsl⟩)
  dsimp only [Pt.U, Pt.locs, Pt.cells, Pt.slots] at X' l1 l2 l3 stp hQ
  subst l1 l2 l3
  exact Wp.chain stp (K v T' Lc X' hQ)
/-! a private instance method -/
theorem W.callP (X : Stand p l e R s m args below meth c T locs cells slots) (hx : p.tables.exec = Jvm.exec) (hZ : Z.Warmed39 s.vm) {own : String} {index : Nat} {y : MethodName} {bytes : ByteArray} {maxL kk : Nat} {ret : Option FieldType} {rm : Room} {Qc : Option Value → Heap → List Loc → Prop} {ps : List FieldType} {r : Option FieldType} {stk : List Value} (pc' W : Nat) (b : Addr) (argsL : List Value)
    (hown : s.vm.findClass own = some m.cls) (w1 : (Jvm.Cond.methodLink own index y).before a0 Z = true) (w2 : (Jvm.Cond.instanceMethod y).before a0 Z = true) (w5 : (Jvm.Cond.privateMethod y).before a0 Z = true) (w6 : (Jvm.Cond.instantiable y.cls kk).before a0 Z = true) (w3 : (Jvm.Cond.initialized y.cls).before a0 Z = true) (w4 : (Jvm.Cond.code y bytes maxL ret).before a0 Z = true) (hy : y.cls ≠ "java/lang/invoke/MethodHandle" ∧ y.cls ≠ "java/lang/invoke/VarHandle")
    (hpd : parseMethodDescriptor y.desc = some ⟨ps, r⟩) (hlen : argsL.length = ps.length) (eT : T.heap = h) {C : String} (E : Exa Z h b C) (hM : Con l Z y bytes maxL ret [] rm (.ref b :: argsL).toArray h Qc) (hd : decode c.code pc = .ok (.invokevirtual index, 3)) (hsz : Ls.size = c.maxLocals) (hstk : stk = argsL.reverse ++ .ref b :: rest) (hW : (rest.map fun v => v.category).sum = W)
    (hf : rm.frames + 1 ≤ R.frames) (hl : W + (maxL + 11) + rm.locals ≤ R.locals) (hc : cells + rm.cells ≤ R.cells) (hsl : slots + rm.slots ≤ R.slots) (hp : pc + 3 = pc')
    (K : ∀ v T' L, Stand p l e R s m args below meth c T' (locs ++ L) (cells + rm.cells) (slots + rm.slots) → Qc v T'.heap L → Wp p e s below Q kc ks (T'.setTop (mkF m pc' Ls (v.toList ++ rest)))) : Wp p e s below Q kc ks (T.setTop (mkF m pc Ls stk)) := by
  subst hp hstk
  obtain ⟨cq, q, q'⟩ := E.cell
  have hpr := Cond.privateMethod_at (mvP hZ w5 (args := args))
  obtain ⟨c2, k2, i1, i2, i3, i4, -⟩ := Cond.instantiable_spec (mvT (args := args) hZ w6)
  have hsel := selects_self_of_private i1 i2 (Bool.or_eq_false_iff.mp i4).1 hpr (mvT (args := args) hZ w2) hy
  obtain ⟨v, vm₁, ⟨T', L', k', n'⟩, -, X', ⟨Lc, hQ, l1, l2, l3⟩, stp⟩ := X.privateBack hx (y := y) hown (mvT hZ w1) (mvT hZ w2) hsel hpr (mvT hZ w4) hy (backOf (W := W) hM hZ w4 w3 hf hl) (g := mkF m pc Ls (argsL.reverse ++ .ref b :: rest)) rfl hsz (Steps.refl _) (a := b) (by rw [eT]; exact q) q' (argsL := argsL) (rest := rest) (lenOf hpd hlen) rfl (by show 2 * 0 + _ ≤ _; omega) hd (fun _ _ => ⟨rfl, eT, hc, hsl⟩)
  dsimp only [Pt.U, Pt.locs, Pt.cells, Pt.slots] at X' l1 l2 l3 stp hQ
  subst l1 l2 l3
  exact Wp.chain stp (K v T' Lc X' hQ)
/-! arraycopy of primitives -/
theorem own_getD {n : Nat} {f : Nat → Value} {d : Value} {q : Nat} (hq : q < n) : ((List.range n).map f).getD q d = f q := by
  rw [List.getD_eq_getElem?_getD, List.getElem?_map, List.getElem?_range hq]; rfl
theorem own_splice {vd us : List Value} {j k q : Nat} {d : Value} (hu : us.length = k) (hjk : j + k ≤ vd.length) : (vd.take j ++ us ++ vd.drop (j + k)).getD q d = if j ≤ q ∧ q < j + k then us.getD (q - j) d else vd.getD q d := by
  simp only [List.getD_eq_getElem?_getD]
  have l1 : (vd.take j).length = j := by rw [List.length_take]; omega
  by_cases h1 : q < j
  · rw [List.append_assoc, List.getElem?_append_left (by omega), List.getElem?_take_of_lt h1, if_neg (by omega)]
  · by_cases h2 : q < j + k
    · rw [List.getElem?_append_left (by rw [List.length_append]; omega), List.getElem?_append_right (by omega), l1, if_pos ⟨by omega, h2⟩]
    · rw [List.getElem?_append_right (by rw [List.length_append]; omega), List.getElem?_drop, if_neg (by omega), List.length_append, l1, hu]
      congr 2
      omega
theorem IArr.arv (A : IArr Z h a ty n f) (hn : n < 2147483648) (hf : ∀ i, i < n → fits ty (f i) = true) : ∃ k, Arv Z h a k ty (Int32.ofNat n) ((List.range n).map f) .null := by
  obtain ⟨c, A, S, H⟩ := A
  obtain ⟨q1, q2⟩ := nat_of (own_ofNat hn)
  refine ⟨c.cls, c, A, rfl, by rw [q2, S], q1, fun i hi => ?_, fun i hi => ?_⟩
  · rw [own_getD (by omega)]; exact H i (by omega)
  · rw [own_getD (by omega)]; exact hf i (by omega)
theorem W.acopy (X : Stand p l e R s m args below meth c T locs cells slots) (hx : p.tables.exec = Jvm.exec) (hZ : Z.Warmed39 s.vm) {own : String} {index : Nat} {sp dp nn : Int32} {n' : Nat} {g : Nat → Value} {n0 : Nat} (pc' W i j k : Nat) (hown : s.vm.findClass own = some m.cls) (w1 : (Jvm.Cond.methodLink own index Jvm.Stand.acN).before a0 Z = true) (w2 : (Jvm.Cond.native Jvm.Stand.acN).before a0 Z = true) (w3 : (Jvm.Cond.static Jvm.Stand.acN).before a0 Z = true) (w4 : (Jvm.Cond.initialized "java/lang/System").before a0 Z = true) (eT : T.heap = h)
    (A : IArr Z h a ty n f) (B : IArr Z h b ty n' g) (hty : refKind ty = false) (hfa : ∀ i, i < n → fits ty (f i) = true) (hfb : ∀ i, i < n' → fits ty (g i) = true) (hsp : sp.toInt = (i : Int)) (hdp : dp.toInt = (j : Int)) (hnn : nn.toInt = (k : Int)) (h4 : i + k ≤ n) (h5 : j + k ≤ n') (hn : n < 2147483648) (hn' : n' < 2147483648) (N : Fr n0 locs) (ge : n0 ≤ b)
    (hsz : Ls.size = c.maxLocals) (hd : decode c.code pc = .ok (.invokestatic index, 3)) (hf : 1 ≤ R.frames) (hW : (st.map fun v => v.category).sum = W) (hlo : W + (nativeFrameWords "java/lang/System" "arraycopy" 5 + 11) ≤ R.locals) (hp : pc + 3 = pc')
    (K : ∀ T' h' L, Stand p l e R s m args below meth c T' L cells slots → T'.heap = h' → Fr n0 L → Keep h h' [b] → IArr Z h' b ty n' (fun q => if j ≤ q ∧ q < j + k then f (i + (q - j)) else g q) → Wp p e s below Q kc ks (T'.setTop (mkF m pc' Ls st))) : Wp p e s below Q kc ks (T.setTop (mkF m pc Ls (.int nn :: .int dp :: .ref b :: .int sp :: .ref a :: st))) := by
  subst hp
  obtain ⟨ka, VA⟩ := A.arv hn hfa
  obtain ⟨kb, VB⟩ := B.arv hn' hfb
  obtain ⟨s1, s2⟩ := nat_of hsp
  obtain ⟨d1, d2⟩ := nat_of hdp
  obtain ⟨m1, m2⟩ := nat_of hnn
  obtain ⟨-, z2⟩ := nat_of (own_ofNat hn)
  obtain ⟨-, z2'⟩ := nat_of (own_ofNat hn')
  obtain ⟨T', h', L, X', e', N', Kp, V', stp⟩ := cpA X hx hZ hown w1 w2 w3 w4 eT VA VB (Or.inl ⟨rfl, hty⟩) s1 d1 m1 (by rw [s2, m2, z2]; exact h4) (by rw [d2, m2, z2']; exact h5) rfl (by rw [d2, m2]; simpa using h5) N ge (g := mkF m pc Ls (.int nn :: .int dp :: .ref b :: .int sp :: .ref a :: st)) rfl hsz rfl hd hf (W := W) (by show 2 * 0 + _ ≤ _; omega) hlo
  refine Wp.step stp (K T' h' L X' e' N' Kp ?_)
  obtain ⟨c', A', -, S', -, H', -⟩ := V'
  refine ⟨c', A', by rw [S', z2'], fun q hq => ?_⟩
  rw [H' q (by rw [S', z2']; exact hq), d2, m2, s2, own_splice (by simp) (by simpa using h5)]
  dsimp only
  by_cases hh : j ≤ q ∧ q < j + k
  · rw [if_pos hh, if_pos hh, own_getD (by omega), own_getD (by omega)]
  · rw [if_neg hh, if_neg hh, own_getD hq]
def BArr (Z : State) (h : Heap) (a : Addr) (ty : FieldType) (n : Nat) : Prop := ∃ f, IArr Z h a ty n f ∧ ∀ i, i < n → fits ty (f i) = true
theorem BArr.lt (A : BArr Z h a ty n) : a < h.size := by obtain ⟨f, A, -⟩ := A; exact A.lt
theorem BArr.ext (A : BArr Z h a ty n) (E : Ext h h') : BArr Z h' a ty n := by obtain ⟨f, A, r⟩ := A; exact ⟨f, A.ext E, r⟩
theorem BArr.other {sl : Nat} {v : Value} (A : BArr Z h b ty n) (W : Wr h h' a sl v) (q : b ≠ a) : BArr Z h' b ty n := by obtain ⟨f, A, r⟩ := A; exact ⟨f, A.other W q, r⟩
theorem BArr.keep {ws : List Addr} (A : BArr Z h a ty n) (K : Keep h h' ws) (q : a ∉ ws) : BArr Z h' a ty n := by obtain ⟨f, A, r⟩ := A; exact ⟨f, A.keep K q, r⟩
theorem IArr.barr (A : IArr Z h a ty n (fun _ => defaultValue ty)) : BArr Z h a ty n := ⟨_, A, fun i _ => by cases ty <;> rfl⟩
theorem fits_splice {g : Nat → Value} {n' i j k : Nat} (hfa : ∀ i, i < n → fits ty (f i) = true) (hfb : ∀ i, i < n' → fits ty (g i) = true) (h4 : i + k ≤ n) : ∀ q, q < n' → fits ty ((fun q => if j ≤ q ∧ q < j + k then f (i + (q - j)) else g q) q) = true := fun q hq => by
  dsimp only
  split
  · exact hfa _ (by omega)
  · exact hfb _ hq
theorem own_ladd {x y : Int64} (h1 : -9223372036854775808 ≤ x.toInt + y.toInt) (h2 : x.toInt + y.toInt < 9223372036854775808) : (x + y).toInt = x.toInt + y.toInt := by
  have a : ((x + y).toInt - (x.toInt + y.toInt)) % 18446744073709551616 = 0 := by rw [Int64.toInt_add]; exact bm64 _
  have r := rng64 (x + y)
  omega
theorem own_lmul {x y : Int64} (h1 : -9223372036854775808 ≤ x.toInt * y.toInt) (h2 : x.toInt * y.toInt < 9223372036854775808) : (x * y).toInt = x.toInt * y.toInt := by
  have a : ((x * y).toInt - (x.toInt * y.toInt)) % 18446744073709551616 = 0 := by rw [Int64.toInt_mul]; exact bm64 _
  have r := rng64 (x * y)
  omega
theorem W.newarrE (X : Stand p l e R s m args below meth c T locs cells slots) (hx : p.tables.exec = Jvm.exec) (hZ : Z.Warmed39 s.vm) {aty : ArrayType} {z : Int32} (pc' : Nat) (k cap : Nat) (ad : String) (w : (Jvm.Cond.arrayClass (newarray.typeOf aty)).before a0 Z = true) (eT : T.heap = h) (hd : decode c.code pc = .ok (.newarray aty, 2)) (had : "[" ++ (newarray.typeOf aty).toString = ad) (hz : z.toInt = (k : Int)) (hcap : k ≤ cap) (hb : cap * 8 ≤ 536870912) (hc : cells + 1 ≤ R.cells) (hl : slots + cap ≤ R.slots) (hp : pc + 2 = pc')
    (K : ∀ T' h' a, a = h.size → Stand p l e R s m args below meth c T' locs (cells + 1) (slots + cap) → T'.heap = h' → Ext h h' → IArr Z h' a (newarray.typeOf aty) k (fun _ => defaultValue (newarray.typeOf aty)) → Exa Z h' a ad → Wp p e s below Q kc ks (T'.setTop (mkF m pc' Ls (.ref a :: st)))) : Wp p e s below Q kc ks (T.setTop (mkF m pc Ls (.int z :: st))) := by
  subst hp
  obtain ⟨q1, q2⟩ := nat_of hz
  obtain ⟨T', h', cA, X', e', E, A, EA, stp⟩ := newPE X hx hZ w eT (g := mkF m pc Ls (.int z :: st)) rfl hd rfl q1 (cap := cap) (by omega) hb hc hl had
  exact Wp.step stp (K T' h' _ rfl X' e' E (IArr.fresh A q2) EA)
def TakesA (Z : State) (h : Heap) (a : Addr) (C : String) : Prop := ∃ (c : Cell) (t ty : FieldType), Arr Z h a c t ∧ OvrA Z c.cls ty C
theorem TakesA.lt {C : String} (F : TakesA Z h a C) : a < h.size := by obtain ⟨c, t, ty, A, -⟩ := F; exact A.lt
theorem TakesA.ext {C : String} (F : TakesA Z h a C) (E : Ext h h') : TakesA Z h' a C := by obtain ⟨c, t, ty, A, O⟩ := F; exact ⟨c, t, ty, A.ext E, O⟩
theorem TakesA.wr {C : String} {sl : Nat} {v : Value} (F : TakesA Z h a C) (W : Wr h h' b sl v) : TakesA Z h' a C := by
  obtain ⟨c, t, ty, A, O⟩ := F
  by_cases q : a = b
  · subst q; exact ⟨_, t, ty, A.same W, O⟩
  · exact ⟨c, t, ty, A.other W q, O⟩
theorem TakesA.keep {C : String} {ws : List Addr} (F : TakesA Z h a C) (K : Keep h h' ws) (q : a ∉ ws) : TakesA Z h' a C := by obtain ⟨c, t, ty, A, O⟩ := F; exact ⟨c, t, ty, ⟨K.2.1 a c A.1 q, A.2⟩, O⟩
theorem TakesA.sto {C : String} {y : Addr} (F : TakesA Z h a C) (I : Ins Z h y C true) : Sto Z h a (.ref y) := by obtain ⟨c, t, ty, A, O⟩ := F; exact Sto.ofVA A rfl O I
theorem W.newRA (X : Stand p l e R s m args below meth c T locs cells slots) (hx : p.tables.exec = Jvm.exec) (hZ : Z.Warmed39 s.vm) {own : String} {ty : FieldType} {index : Nat} {z : Int32} (pc' : Nat) (k cap : Nat) (C : String) (hown : s.vm.findClass own = some m.cls) (hC : (FieldType.array ty).toString = C) (w1 : (Jvm.Cond.classLink own index C).before a0 Z = true) (w2 : (Jvm.Cond.arrayOver (.array ty)).before a0 Z = true) (eT : T.heap = h) (hd : decode c.code pc = .ok (.anewarray index, 3)) (hz : z.toInt = (k : Int)) (hcap : k ≤ cap) (hb : cap * 8 ≤ 536870912) (hc : cells + 1 ≤ R.cells) (hl : slots + cap ≤ R.slots) (hp : pc + 3 = pc')
    (K : ∀ T' h' a, a = h.size → Stand p l e R s m args below meth c T' locs (cells + 1) (slots + cap) → T'.heap = h' → Ext h h' → IArr Z h' a (.array ty) k (fun _ => defaultValue (.array ty)) → TakesA Z h' a C → Wp p e s below Q kc ks (T'.setTop (mkF m pc' Ls (.ref a :: st)))) : Wp p e s below Q kc ks (T.setTop (mkF m pc Ls (.int z :: st))) := by
  subst hp
  obtain ⟨q1, q2⟩ := nat_of hz
  obtain ⟨T', h', cA, X', e', E, A, -, O, stp⟩ := Jvm.RoadKit.newRA X hx hZ hown hC w1 w2 eT (g := mkF m pc Ls (.int z :: st)) rfl hd rfl q1 (cap := cap) (by omega) hb hc hl rfl
  exact Wp.step stp (K T' h' _ rfl X' e' E (IArr.fresh A q2) ⟨_, _, _, A, O⟩)
end W
end Jvm.OwnW
namespace Jvm.OwnW
open Sem ClassFile Op Lib Jvm.Stand Jvm.Free Jvm.LawKit Jvm.RoadKit
section W
variable {p : Program} {l : Launch} {e : Env} {R : Room} {s : State} {m : MethodId} {args : Array Value} {below : List Frame} {meth : Method} {c : Code} {T : State} {locs : List Loc} {cells slots : Nat} {Q : Option Value → Heap → List Loc → Prop} {kc ks : Nat} {Z : State} {a0 : Array Value} {h h' : Heap} {pc : Nat} {Ls : Array Slot} {st rest : List Value} {a b : Addr} {n : Nat} {f : Nat → Value} {ty : FieldType}
theorem W.ldcF (X : Stand p l e R s m args below meth c T locs cells slots) (hx : p.tables.exec = Jvm.exec) (hZ : Z.Warmed39 s.vm) {own : String} {index : Nat} {v : UInt32} (pc' : Nat) (hown : s.vm.findClass own = some m.cls) (w : (Jvm.Cond.constantFloat own index v).before a0 Z = true) (hd : decode c.code pc = .ok (.ldc index, 2)) (hp : pc + 2 = pc') (K : Wp p e s below Q kc ks (T.setTop (mkF m pc' Ls (.float v :: st)))) : Wp p e s below Q kc ks (T.setTop (mkF m pc Ls st)) := by
  subst hp; exact Wp.step (fun t k => X.ldcFloatC hx hown (mvT hZ w) (g := mkF m pc Ls st) rfl hd t k) K
/-- a statics cell is no object: what is written in objects leaves it -/
theorem Sta.keepE {C n d D : String} {w : Value} (F : Sta Z h C n d w) (K : Keep h h' [a]) (E : Exa Z h a D) : Sta Z h' C n d w := by
  obtain ⟨cf, i, k, f, st, cell, h1, h2, h3, h4, h5, h6, r⟩ := F
  obtain ⟨cq, q, q'⟩ := E.cell
  refine ⟨cf, i, k, f, st, cell, h1, h2, h3, h4, K.2.1 _ _ h5 (ninS (fun z => ?_) nin0), h6, r⟩
  subst z
  cases q.symm.trans h5
  revert h6 q'
  cases cell.vm <;> simp [VmData.isStatics]
theorem Takes.keep {C : String} {ws : List Addr} (F : Jvm.OwnW.Takes Z h a C) (K : Keep h h' ws) (q : a ∉ ws) : Jvm.OwnW.Takes Z h' a C := by obtain ⟨c, t, A, O⟩ := F; exact ⟨c, t, ⟨K.2.1 a c A.1 q, A.2⟩, O⟩
theorem Steps.own_initWarm {tb : Tables} [Ours tb] {e : Env} {below : List Frame} {s U : State} {mm : MethodId} {cc : Code} (h : At U mm cc below) (hexec : tb.exec = Jvm.exec) (hW : s.WarmedH U.vm)
    {own : String} (hown : s.vm.findClass own = some mm.cls) {idx : Nat} {t : MethodName} (ht1 : t.name = "<init>")
    (hnot : t.cls ≠ "java/lang/invoke/MethodHandle" ∧ t.cls ≠ "java/lang/invoke/VarHandle") {args : Array Value} {bytes : ByteArray} {maxL : Nat}
    (hlink : (Jvm.Cond.methodRef own idx t).before args s = true) (hinst : (Jvm.Cond.instanceMethod t).before args s = true) (hcode : (Jvm.Cond.code t bytes maxL none).before args s = true)
    {f : JFrame} (hf : f.method = mm) {a : Addr} {argsL rest : List Value} (hlen : ∀ sig, parseMethodDescriptor t.desc = some sig → argsL.length = sig.parameters.length) (hstack : f.stack = argsL.reverse ++ .ref a :: rest) (hd : decode cc.code f.pc = .ok (.invokespecial idx, 3)) :
    ∃ tm, s.methodNamed? t = some tm ∧
      ∀ target, (∀ acts, Steps tb e below (doInvoke e (U.setTop { f with stack := rest }) acts tm (.ref a :: argsL).toArray).1 target) → Steps tb e below (U.setTop f) target := by
  subst hf
  obtain ⟨obj, methO, hnO, hmO, hstO, habO⟩ := Cond.instanceMethod_spec hinst
  obtain ⟨methO', cO, hmO', hcO, hbO, hlO, -, hlockO, -, hsigO⟩ := Cond.code_spec hnO hcode
  cases hmO.symm.trans hmO'
  obtain ⟨kO, hkO, hnameO⟩ := className_of_methodNamed hnO
  obtain ⟨hnameMO, hdescO⟩ := name_of_methodNamed hnO hmO
  have hl' := Cond.methodRef_warmed hW hnO hnot hlink
  obtain ⟨m', c', hm', hreadyM, hfind', hres⟩ := Cond.methodRef_named e (cur := f.method.cls) (by rw [State.vm_setVm, hW.alike.findClass]; exact hown) hl'
  rw [State.methodFound?_setVm_of_named hW.alike hnO hnot] at hm'
  have hmm : obj = m' := Option.some.inj ((State.methodFound?_of_named hnO hnot).symm.trans hm')
  subst hmm
  have hcc : c' = obj.cls := by
    rw [State.vm_setVm, hW.alike.findClass, findClass_of_methodNamed hnO] at hfind'
    exact (Option.some.inj hfind').symm
  subst hcc
  rw [State.vm_setVm] at hreadyM hres
  obtain ⟨kO₂, hkO₂, heO₂⟩ := hW.alike.2.2 _ _ hkO
  have hmO₂ : U.vm.method? obj = some methO := by rw [hW.alike.method?]; exact hmO
  have hfound : lookupSpecial U.vm obj.cls "<init>" methO.desc = .method obj := by
    rw [hW.alike.lookupSpecial, hdescO, ← ht1]; exact lookupSpecial_of_named hnO hmO hstO
  refine ⟨obj, hnO, fun target hrest => ?_⟩
  jvm_step h [hexec, hd,
    invokespecial.wp_init (e := e) (s := U) (k := kO₂) (meth := methO) (m := obj) (a := a) (args := argsL) (rest := rest) (f := f)
      h.top hres hreadyM hkO₂ hmO₂ (by rw [hnameMO]; exact ht1) hstO habO hfound (hlen _ hsigO) hstack]
  exact hrest
theorem mvRef {y : MethodName} {own : String} {index : Nat} (hZ : Z.Warmed39 s.vm) (w2 : (Jvm.Cond.instanceMethod y).before a0 Z = true) (hy : y.cls ≠ "java/lang/invoke/MethodHandle" ∧ y.cls ≠ "java/lang/invoke/VarHandle") (w : (Jvm.Cond.methodRef own index y).before a0 Z = true) : (Jvm.Cond.methodRef own index y).before args s = true := by
  obtain ⟨obj, methO, hnO, -⟩ := Cond.instanceMethod_spec w2
  have h1 : (Jvm.Cond.methodRef own index y).before a0 (Z.setVm s.vm) = true := Cond.methodRef_warmed39 hZ hnO hy w
  exact h1
theorem W.callIR (X : Stand p l e R s m args below meth c T locs cells slots) (hx : p.tables.exec = Jvm.exec) (hZ : Z.Warmed39 s.vm) {own : String} {index : Nat} {y : MethodName} {bytes : ByteArray} {maxL : Nat} {rm : Room} {Qc : Option Value → Heap → List Loc → Prop} {ps : List FieldType} {r : Option FieldType} {stk : List Value} (pc' W : Nat) (b : Addr) (argsL : List Value) (hy1 : y.name = "<init>")
    (hown : s.vm.findClass own = some m.cls) (w1 : (Jvm.Cond.methodRef own index y).before a0 Z = true) (w2 : (Jvm.Cond.instanceMethod y).before a0 Z = true) (w3 : (Jvm.Cond.initialized y.cls).before a0 Z = true) (w4 : (Jvm.Cond.code y bytes maxL none).before a0 Z = true) (hy : y.cls ≠ "java/lang/invoke/MethodHandle" ∧ y.cls ≠ "java/lang/invoke/VarHandle")
    (hpd : parseMethodDescriptor y.desc = some ⟨ps, r⟩) (hlen : argsL.length = ps.length) (eT : T.heap = h) (hM : Con l Z y bytes maxL none [] rm (.ref b :: argsL).toArray h Qc) (hd : decode c.code pc = .ok (.invokespecial index, 3)) (hsz : Ls.size = c.maxLocals) (hstk : stk = argsL.reverse ++ .ref b :: rest) (hW : (rest.map fun v => v.category).sum = W)
    (hf : rm.frames + 1 ≤ R.frames) (hl : W + (maxL + 11) + rm.locals ≤ R.locals) (hc : cells + rm.cells ≤ R.cells) (hsl : slots + rm.slots ≤ R.slots) (hp : pc + 3 = pc')
    (K : ∀ v T' L, Stand p l e R s m args below meth c T' (locs ++ L) (cells + rm.cells) (slots + rm.slots) → Qc v T'.heap L → Wp p e s below Q kc ks (T'.setTop (mkF m pc' Ls (v.toList ++ rest)))) : Wp p e s below Q kc ks (T.setTop (mkF m pc Ls stk)) := by
  subst hp hstk
  obtain ⟨mk, hnamed, hstep⟩ := Steps.own_initWarm (e := e) X.here hx X.warmed hown hy1 hy (mvRef (args := args) hZ w2 hy w1) (mvT hZ w2) (mvT hZ w4) (f := mkF m pc Ls (argsL.reverse ++ .ref b :: rest)) rfl (a := b) (argsL := argsL) (rest := rest) (lenOf hpd hlen) rfl hd
  obtain ⟨v, ⟨T', L', k', n'⟩, X', ⟨Lc, hQ, l1, l2, l3⟩, stp⟩ := backOf (W := W) (len := 3) hM hZ w4 w3 hf hl m meth c ⟨T, locs, cells, slots⟩ (mkF m pc Ls rest) (.invokespecial index) mk (.ref b :: argsL).toArray X rfl hsz hd (by show 2 * 0 + (rest.map fun v => v.category).sum ≤ W; omega) (X.named hnamed) ⟨rfl, eT, hc, hsl⟩
  dsimp only [Pt.U, Pt.locs, Pt.cells, Pt.slots] at X' l1 l2 l3 stp hQ
  subst l1 l2 l3
  exact Wp.chain (hstep _ fun acts => by rw [doInvoke_state]; exact stp) (K v T' Lc X' hQ)
end W
end Jvm.OwnW
namespace Jvm.OwnW
open Sem ClassFile Op Lib Jvm.Stand Jvm.Free Jvm.LawKit Jvm.RoadKit
section V
variable {s0 : State} {p : Program} {l : Launch} {e : Env} {R : Room} {s : State} {m : MethodId} {args : Array Value} {below : List Frame} {meth : Method} {c : Code} {T : State} {locs : List Loc} {cells slots : Nat} {Q : Option Value → Heap → List Loc → Prop} {kc ks : Nat} {Z : State} {a0 : Array Value} {h h' : Heap} {pc : Nat} {Ls : Array Slot} {st rest : List Value} {a b : Addr} {n : Nat} {f : Nat → Value} {ty : FieldType}
/-- what is left of a walk that may intern, from the start s0 -/
def WpV (p : Program) (e : Env) (s : State) (below : List Frame) (Q : Option Value → Heap → List Loc → Prop) (kc ks : Nat) (S : State) : Prop :=
  ∃ s₂ o, Steps p.tables e below S s₂ ∧ s₂.status = .running ∧ Ended s₂ below o ∧ ∃ v L, o = .returned v ∧ Q v s₂.heap L ∧ ReturnedEndW s o s₂ L kc ks
def ConV (l : Launch) (Z : State) (y : MethodName) (bytes : ByteArray) (maxL : Nat) (ret : Option FieldType) (ws : List Jvm.Cond) (rm : Room) (as' : Array Value) (h0 : Heap) (Q : Option Value → Heap → List Loc → Prop) : Prop :=
  MetFree l y (head1 (Jvm.Cond.code y bytes maxL ret :: ws) rm) (fun a U => a = as' ∧ Z.Warmed39 U.vm ∧ U.heap = h0) (fun _ _ _ _ _ => True) (fun _ U o U' => ∃ v L, o = .returned v ∧ Q v U'.heap L ∧ ReturnedEndW U o U' L rm.cells rm.slots)
theorem ConV.of {y : MethodName} {bytes : ByteArray} {maxL : Nat} {ret : Option FieldType} {ws : List Jvm.Cond} {rm : Room} {as' : Array Value} (hpn : plainFor y = true)
    (w : ∀ p e s m below meth c s₁, p.tables.exec = Jvm.exec → c.code = bytes → c.maxLocals = maxL → (s.setVm s.vm).vm.findClass y.cls = some m.cls → meth.name = y.name → meth.sig.returnType = ret → meth.locks = false → Z.Warmed39 (s.setVm s.vm).vm → Stand p l e rm (s.setVm s.vm) m as' below meth c s₁ [] 0 0 → s₁.heap = h → s.Since s.vm 0 → WpV p e s below Q rm.cells rm.slots (s₁.setTop (entryFrame m as' maxL))) :
    ConV l Z y bytes maxL ret ws rm as' h Q := by
  refine MetFree.of_bodySF hpn hisR ?_
  intro p e s m args below meth c s₁ Bd hml0 hP hK
  obtain ⟨rfl, hZ, hh⟩ := hP
  exact w p e s m below meth c s₁ Bd.exec Bd.bytes hml0 (findClass_of_methodNamed Bd.named) (name_of_methodNamed Bd.named Bd.method).1 Bd.returns (BodyLoose.notSynchronized Bd) hZ (Stand.of_body Bd) (by rw [← hh, Bd.state]; rfl) ((State.WarmedH.refl s).since 0)
theorem WpV.step {S S' : State} (f : ∀ t, Steps p.tables e below S' t → Steps p.tables e below S t) (k : WpV p e s0 below Q kc ks S') : WpV p e s0 below Q kc ks S := by
  obtain ⟨s₂, o, h1, r⟩ := k
  exact ⟨s₂, o, f _ h1, r⟩
theorem WpV.chain {S S' : State} (f : Steps p.tables e below S S') (k : WpV p e s0 below Q kc ks S') : WpV p e s0 below Q kc ks S := by
  obtain ⟨s₂, o, h1, r⟩ := k
  exact ⟨s₂, o, f.trans h1, r⟩
theorem WpV.cast {S S' : State} (q : S = S') (k : WpV p e s0 below Q kc ks S') : WpV p e s0 below Q kc ks S := q ▸ k
theorem WpV.enter {g g' : JFrame} (q : g = g') (k : WpV p e s0 below Q kc ks (T.setTop g')) : WpV p e s0 below Q kc ks (T.setTop g) := q ▸ k
theorem V.iconst (X : Stand p l e R s m args below meth c T locs cells slots) (hx : p.tables.exec = Jvm.exec) {i : Int} (pc' : Nat) (v : Int32) (hd : decode c.code pc = .ok (.iconst i, 1)) (hv : Int32.ofInt i = v) (hp : pc + 1 = pc') (K : WpV p e s0 below Q kc ks (T.setTop (mkF m pc' Ls (.int v :: st)))) : WpV p e s0 below Q kc ks (T.setTop (mkF m pc Ls st)) := by
  subst hp hv; exact WpV.step (fun _ k => XS.iconst X.here hx rfl hd k) K
theorem V.bipush (X : Stand p l e R s m args below meth c T locs cells slots) (hx : p.tables.exec = Jvm.exec) {i : Int} (pc' : Nat) (v : Int32) (hd : decode c.code pc = .ok (.bipush i, 2)) (hv : (Int8.ofInt i).toInt32 = v) (hp : pc + 2 = pc') (K : WpV p e s0 below Q kc ks (T.setTop (mkF m pc' Ls (.int v :: st)))) : WpV p e s0 below Q kc ks (T.setTop (mkF m pc Ls st)) := by
  subst hp hv; exact WpV.step (fun _ k => XS.bipush X.here hx rfl hd k) K
theorem V.sipush (X : Stand p l e R s m args below meth c T locs cells slots) (hx : p.tables.exec = Jvm.exec) {i : Int} (pc' : Nat) (v : Int32) (hd : decode c.code pc = .ok (.sipush i, 3)) (hv : (Int16.ofInt i).toInt32 = v) (hp : pc + 3 = pc') (K : WpV p e s0 below Q kc ks (T.setTop (mkF m pc' Ls (.int v :: st)))) : WpV p e s0 below Q kc ks (T.setTop (mkF m pc Ls st)) := by
  subst hp hv; exact WpV.step (fun _ k => XS.sipush X.here hx rfl hd k) K
theorem V.lconst (X : Stand p l e R s m args below meth c T locs cells slots) (hx : p.tables.exec = Jvm.exec) {i : Fin 2} (pc' : Nat) (v : Int64) (hd : decode c.code pc = .ok (.lconst i, 1)) (hv : (Int64.ofNat i) = v) (hp : pc + 1 = pc') (K : WpV p e s0 below Q kc ks (T.setTop (mkF m pc' Ls (.long v :: st)))) : WpV p e s0 below Q kc ks (T.setTop (mkF m pc Ls st)) := by
  subst hp hv; exact WpV.step (fun _ k => XT.lconst X.here hx rfl hd k) K
theorem V.anull (X : Stand p l e R s m args below meth c T locs cells slots) (hx : p.tables.exec = Jvm.exec) (pc' : Nat) (hd : decode c.code pc = .ok (.aconst_null, 1)) (hp : pc + 1 = pc') (K : WpV p e s0 below Q kc ks (T.setTop (mkF m pc' Ls (.null :: st)))) : WpV p e s0 below Q kc ks (T.setTop (mkF m pc Ls st)) := by
  subst hp; exact WpV.step (fun _ k => XS.aconstNull X.here hx rfl hd k) K
theorem V.ldcI (X : Stand p l e R s m args below meth c T locs cells slots) (hx : p.tables.exec = Jvm.exec) (hZ : Z.Warmed39 s.vm) {own : String} {index : Nat} {v : Int32} (pc' : Nat) (hown : s.vm.findClass own = some m.cls) (w : (Jvm.Cond.constant own index v).before a0 Z = true) (hd : decode c.code pc = .ok (.ldc index, 2)) (hp : pc + 2 = pc') (K : WpV p e s0 below Q kc ks (T.setTop (mkF m pc' Ls (.int v :: st)))) : WpV p e s0 below Q kc ks (T.setTop (mkF m pc Ls st)) := by
  subst hp; exact WpV.step (fun t k => X.ldcInt hx hown (mvT hZ w) (g := mkF m pc Ls st) rfl hd t k) K
theorem V.ldcL (X : Stand p l e R s m args below meth c T locs cells slots) (hx : p.tables.exec = Jvm.exec) (hZ : Z.Warmed39 s.vm) {own : String} {index : Nat} {v : Int64} (pc' : Nat) (hown : s.vm.findClass own = some m.cls) (w : (Jvm.Cond.constantLong own index v).before a0 Z = true) (hd : decode c.code pc = .ok (.ldc2_w index, 3)) (hp : pc + 3 = pc') (K : WpV p e s0 below Q kc ks (T.setTop (mkF m pc' Ls (.long v :: st)))) : WpV p e s0 below Q kc ks (T.setTop (mkF m pc Ls st)) := by
  subst hp; exact WpV.step (fun t k => X.ldc2Long hx hown (mvT hZ w) (g := mkF m pc Ls st) rfl hd t k) K
theorem V.iloadN (X : Stand p l e R s m args below meth c T locs cells slots) (hx : p.tables.exec = Jvm.exec) {k : Fin 4} {x : Int32} (pc' : Nat) (hd : decode c.code pc = .ok (.iload_n k, 1)) (hl : Ls[k.val]? = some (.val (.int x))) (hp : pc + 1 = pc') (K : WpV p e s0 below Q kc ks (T.setTop (mkF m pc' Ls (.int x :: st)))) : WpV p e s0 below Q kc ks (T.setTop (mkF m pc Ls st)) := by
  subst hp; exact WpV.step (fun _ k => XS.iloadN X.here hx rfl hd hl k) K
theorem V.iload (X : Stand p l e R s m args below meth c T locs cells slots) (hx : p.tables.exec = Jvm.exec) {k : Nat} {x : Int32} (pc' : Nat) (hd : decode c.code pc = .ok (.iload k, 2)) (hl : Ls[k]? = some (.val (.int x))) (hp : pc + 2 = pc') (K : WpV p e s0 below Q kc ks (T.setTop (mkF m pc' Ls (.int x :: st)))) : WpV p e s0 below Q kc ks (T.setTop (mkF m pc Ls st)) := by
  subst hp; exact WpV.step (fun _ k => XS.iload X.here hx rfl hd hl k) K
theorem V.aloadN (X : Stand p l e R s m args below meth c T locs cells slots) (hx : p.tables.exec = Jvm.exec) {k : Fin 4} {x : Value} (pc' : Nat) (hd : decode c.code pc = .ok (.aload_n k, 1)) (hl : Ls[k.val]? = some (.val x)) (hr : x.isRef = true) (hp : pc + 1 = pc') (K : WpV p e s0 below Q kc ks (T.setTop (mkF m pc' Ls (x :: st)))) : WpV p e s0 below Q kc ks (T.setTop (mkF m pc Ls st)) := by
  subst hp; exact WpV.step (fun _ k => XS.aloadN X.here hx rfl hd hl hr k) K
theorem V.aload (X : Stand p l e R s m args below meth c T locs cells slots) (hx : p.tables.exec = Jvm.exec) {k : Nat} {x : Value} (pc' : Nat) (hd : decode c.code pc = .ok (.aload k, 2)) (hl : Ls[k]? = some (.val x)) (hr : x.isRef = true) (hp : pc + 2 = pc') (K : WpV p e s0 below Q kc ks (T.setTop (mkF m pc' Ls (x :: st)))) : WpV p e s0 below Q kc ks (T.setTop (mkF m pc Ls st)) := by
  subst hp; exact WpV.step (fun _ k => XS.aload X.here hx rfl hd hl hr k) K
theorem V.lloadN (X : Stand p l e R s m args below meth c T locs cells slots) (hx : p.tables.exec = Jvm.exec) {k : Fin 4} {x : Int64} (pc' : Nat) (hd : decode c.code pc = .ok (.lload_n k, 1)) (hl : Ls[k.val]? = some (.val (.long x))) (hp : pc + 1 = pc') (K : WpV p e s0 below Q kc ks (T.setTop (mkF m pc' Ls (.long x :: st)))) : WpV p e s0 below Q kc ks (T.setTop (mkF m pc Ls st)) := by
  subst hp; exact WpV.step (fun _ k => XS.lloadN X.here hx rfl hd hl k) K
theorem V.lload (X : Stand p l e R s m args below meth c T locs cells slots) (hx : p.tables.exec = Jvm.exec) {k : Nat} {x : Int64} (pc' : Nat) (hd : decode c.code pc = .ok (.lload k, 2)) (hl : Ls[k]? = some (.val (.long x))) (hp : pc + 2 = pc') (K : WpV p e s0 below Q kc ks (T.setTop (mkF m pc' Ls (.long x :: st)))) : WpV p e s0 below Q kc ks (T.setTop (mkF m pc Ls st)) := by
  subst hp; exact WpV.step (fun _ k => XS.lload X.here hx rfl hd hl k) K
theorem V.istoreN (X : Stand p l e R s m args below meth c T locs cells slots) (hx : p.tables.exec = Jvm.exec) {k : Fin 4} {x : Int32} (pc' : Nat) (l' : Array Slot) (hd : decode c.code pc = .ok (.istore_n k, 1)) (hl : storeLocals Ls k.val (.int x) = some l') (hp : pc + 1 = pc') (K : WpV p e s0 below Q kc ks (T.setTop (mkF m pc' l' st))) : WpV p e s0 below Q kc ks (T.setTop (mkF m pc Ls (.int x :: st))) := by
  subst hp; exact WpV.step (fun _ k => XS.istoreN X.here hx rfl hd rfl hl k) K
theorem V.istore (X : Stand p l e R s m args below meth c T locs cells slots) (hx : p.tables.exec = Jvm.exec) {k : Nat} {x : Int32} (pc' : Nat) (l' : Array Slot) (hd : decode c.code pc = .ok (.istore k, 2)) (hl : storeLocals Ls k (.int x) = some l') (hp : pc + 2 = pc') (K : WpV p e s0 below Q kc ks (T.setTop (mkF m pc' l' st))) : WpV p e s0 below Q kc ks (T.setTop (mkF m pc Ls (.int x :: st))) := by
  subst hp; exact WpV.step (fun _ k => XS.istore X.here hx rfl hd rfl hl k) K
theorem V.astoreN (X : Stand p l e R s m args below meth c T locs cells slots) (hx : p.tables.exec = Jvm.exec) {k : Fin 4} {x : Value} (pc' : Nat) (l' : Array Slot) (hd : decode c.code pc = .ok (.astore_n k, 1)) (hr : x.isRef = true) (hl : storeLocals Ls k.val x = some l') (hp : pc + 1 = pc') (K : WpV p e s0 below Q kc ks (T.setTop (mkF m pc' l' st))) : WpV p e s0 below Q kc ks (T.setTop (mkF m pc Ls (x :: st))) := by
  subst hp; exact WpV.step (fun _ k => XS.astoreN X.here hx rfl hd rfl hr hl k) K
theorem V.astore (X : Stand p l e R s m args below meth c T locs cells slots) (hx : p.tables.exec = Jvm.exec) {k : Nat} {x : Value} (pc' : Nat) (l' : Array Slot) (hd : decode c.code pc = .ok (.astore k, 2)) (hr : x.isRef = true) (hl : storeLocals Ls k x = some l') (hp : pc + 2 = pc') (K : WpV p e s0 below Q kc ks (T.setTop (mkF m pc' l' st))) : WpV p e s0 below Q kc ks (T.setTop (mkF m pc Ls (x :: st))) := by
  subst hp; exact WpV.step (fun _ k => XS.astore X.here hx rfl hd rfl hr hl k) K
theorem V.lstoreN (X : Stand p l e R s m args below meth c T locs cells slots) (hx : p.tables.exec = Jvm.exec) {k : Fin 4} {x : Int64} (pc' : Nat) (l' : Array Slot) (hd : decode c.code pc = .ok (.lstore_n k, 1)) (hl : storeLocals Ls k.val (.long x) = some l') (hp : pc + 1 = pc') (K : WpV p e s0 below Q kc ks (T.setTop (mkF m pc' l' st))) : WpV p e s0 below Q kc ks (T.setTop (mkF m pc Ls (.long x :: st))) := by
  subst hp; exact WpV.step (fun _ k => XS.lstoreN X.here hx rfl hd rfl hl k) K
theorem V.lstore (X : Stand p l e R s m args below meth c T locs cells slots) (hx : p.tables.exec = Jvm.exec) {k : Nat} {x : Int64} (pc' : Nat) (l' : Array Slot) (hd : decode c.code pc = .ok (.lstore k, 2)) (hl : storeLocals Ls k (.long x) = some l') (hp : pc + 2 = pc') (K : WpV p e s0 below Q kc ks (T.setTop (mkF m pc' l' st))) : WpV p e s0 below Q kc ks (T.setTop (mkF m pc Ls (.long x :: st))) := by
  subst hp; exact WpV.step (fun _ k => XS.lstore X.here hx rfl hd rfl hl k) K
theorem V.iinc (X : Stand p l e R s m args below meth c T locs cells slots) (hx : p.tables.exec = Jvm.exec) {k : Nat} {i : Int} {x : Int32} (pc' : Nat) (v : Int32) (l' : Array Slot) (hd : decode c.code pc = .ok (.iinc k i, 3)) (hv : Int32.ofInt i = v) (hl : Ls[k]? = some (.val (.int x))) (hl' : storeLocals Ls k (.int (x + v)) = some l') (hp : pc + 3 = pc') (K : WpV p e s0 below Q kc ks (T.setTop (mkF m pc' l' st))) : WpV p e s0 below Q kc ks (T.setTop (mkF m pc Ls st)) := by
  subst hp hv; exact WpV.step (fun _ k => XS.iinc X.here hx rfl hd hl hl' k) K
theorem V.iadd (X : Stand p l e R s m args below meth c T locs cells slots) (hx : p.tables.exec = Jvm.exec) {x y : Int32} (pc' : Nat) (hd : decode c.code pc = .ok (.iadd, 1)) (hp : pc + 1 = pc') (K : WpV p e s0 below Q kc ks (T.setTop (mkF m pc' Ls (.int (x + y) :: st)))) : WpV p e s0 below Q kc ks (T.setTop (mkF m pc Ls (.int y :: .int x :: st))) := by
  subst hp; exact WpV.step (fun _ k => XS.iadd X.here hx rfl hd rfl k) K
theorem V.ladd (X : Stand p l e R s m args below meth c T locs cells slots) (hx : p.tables.exec = Jvm.exec) {x y : Int64} (pc' : Nat) (hd : decode c.code pc = .ok (.ladd, 1)) (hp : pc + 1 = pc') (K : WpV p e s0 below Q kc ks (T.setTop (mkF m pc' Ls (.long (x + y) :: st)))) : WpV p e s0 below Q kc ks (T.setTop (mkF m pc Ls (.long y :: .long x :: st))) := by
  subst hp; exact WpV.step (fun _ k => XS.ladd X.here hx rfl hd rfl k) K
theorem V.isub (X : Stand p l e R s m args below meth c T locs cells slots) (hx : p.tables.exec = Jvm.exec) {x y : Int32} (pc' : Nat) (hd : decode c.code pc = .ok (.isub, 1)) (hp : pc + 1 = pc') (K : WpV p e s0 below Q kc ks (T.setTop (mkF m pc' Ls (.int (x - y) :: st)))) : WpV p e s0 below Q kc ks (T.setTop (mkF m pc Ls (.int y :: .int x :: st))) := by
  subst hp; exact WpV.step (fun _ k => XS.isub X.here hx rfl hd rfl k) K
theorem V.lsub (X : Stand p l e R s m args below meth c T locs cells slots) (hx : p.tables.exec = Jvm.exec) {x y : Int64} (pc' : Nat) (hd : decode c.code pc = .ok (.lsub, 1)) (hp : pc + 1 = pc') (K : WpV p e s0 below Q kc ks (T.setTop (mkF m pc' Ls (.long (x - y) :: st)))) : WpV p e s0 below Q kc ks (T.setTop (mkF m pc Ls (.long y :: .long x :: st))) := by
  subst hp; exact WpV.step (fun _ k => XS.lsub X.here hx rfl hd rfl k) K
theorem V.imul (X : Stand p l e R s m args below meth c T locs cells slots) (hx : p.tables.exec = Jvm.exec) {x y : Int32} (pc' : Nat) (hd : decode c.code pc = .ok (.imul, 1)) (hp : pc + 1 = pc') (K : WpV p e s0 below Q kc ks (T.setTop (mkF m pc' Ls (.int (x * y) :: st)))) : WpV p e s0 below Q kc ks (T.setTop (mkF m pc Ls (.int y :: .int x :: st))) := by
  subst hp; exact WpV.step (fun _ k => XS.imul X.here hx rfl hd rfl k) K
theorem V.lmul (X : Stand p l e R s m args below meth c T locs cells slots) (hx : p.tables.exec = Jvm.exec) {x y : Int64} (pc' : Nat) (hd : decode c.code pc = .ok (.lmul, 1)) (hp : pc + 1 = pc') (K : WpV p e s0 below Q kc ks (T.setTop (mkF m pc' Ls (.long (x * y) :: st)))) : WpV p e s0 below Q kc ks (T.setTop (mkF m pc Ls (.long y :: .long x :: st))) := by
  subst hp; exact WpV.step (fun _ k => XS.lmul X.here hx rfl hd rfl k) K
theorem V.iand (X : Stand p l e R s m args below meth c T locs cells slots) (hx : p.tables.exec = Jvm.exec) {x y : Int32} (pc' : Nat) (hd : decode c.code pc = .ok (.iand, 1)) (hp : pc + 1 = pc') (K : WpV p e s0 below Q kc ks (T.setTop (mkF m pc' Ls (.int (x &&& y) :: st)))) : WpV p e s0 below Q kc ks (T.setTop (mkF m pc Ls (.int y :: .int x :: st))) := by
  subst hp; exact WpV.step (fun _ k => XS.iand X.here hx rfl hd rfl k) K
theorem V.land (X : Stand p l e R s m args below meth c T locs cells slots) (hx : p.tables.exec = Jvm.exec) {x y : Int64} (pc' : Nat) (hd : decode c.code pc = .ok (.land, 1)) (hp : pc + 1 = pc') (K : WpV p e s0 below Q kc ks (T.setTop (mkF m pc' Ls (.long (x &&& y) :: st)))) : WpV p e s0 below Q kc ks (T.setTop (mkF m pc Ls (.long y :: .long x :: st))) := by
  subst hp; exact WpV.step (fun _ k => XS.land X.here hx rfl hd rfl k) K
theorem V.ior (X : Stand p l e R s m args below meth c T locs cells slots) (hx : p.tables.exec = Jvm.exec) {x y : Int32} (pc' : Nat) (hd : decode c.code pc = .ok (.ior, 1)) (hp : pc + 1 = pc') (K : WpV p e s0 below Q kc ks (T.setTop (mkF m pc' Ls (.int (x ||| y) :: st)))) : WpV p e s0 below Q kc ks (T.setTop (mkF m pc Ls (.int y :: .int x :: st))) := by
  subst hp; exact WpV.step (fun _ k => XS.ior X.here hx rfl hd rfl k) K
theorem V.lor (X : Stand p l e R s m args below meth c T locs cells slots) (hx : p.tables.exec = Jvm.exec) {x y : Int64} (pc' : Nat) (hd : decode c.code pc = .ok (.lor, 1)) (hp : pc + 1 = pc') (K : WpV p e s0 below Q kc ks (T.setTop (mkF m pc' Ls (.long (x ||| y) :: st)))) : WpV p e s0 below Q kc ks (T.setTop (mkF m pc Ls (.long y :: .long x :: st))) := by
  subst hp; exact WpV.step (fun _ k => XS.lor X.here hx rfl hd rfl k) K
theorem V.ixor (X : Stand p l e R s m args below meth c T locs cells slots) (hx : p.tables.exec = Jvm.exec) {x y : Int32} (pc' : Nat) (hd : decode c.code pc = .ok (.ixor, 1)) (hp : pc + 1 = pc') (K : WpV p e s0 below Q kc ks (T.setTop (mkF m pc' Ls (.int (x ^^^ y) :: st)))) : WpV p e s0 below Q kc ks (T.setTop (mkF m pc Ls (.int y :: .int x :: st))) := by
  subst hp; exact WpV.step (fun _ k => XS.ixor X.here hx rfl hd rfl k) K
theorem V.lxor (X : Stand p l e R s m args below meth c T locs cells slots) (hx : p.tables.exec = Jvm.exec) {x y : Int64} (pc' : Nat) (hd : decode c.code pc = .ok (.lxor, 1)) (hp : pc + 1 = pc') (K : WpV p e s0 below Q kc ks (T.setTop (mkF m pc' Ls (.long (x ^^^ y) :: st)))) : WpV p e s0 below Q kc ks (T.setTop (mkF m pc Ls (.long y :: .long x :: st))) := by
  subst hp; exact WpV.step (fun _ k => XS.lxor X.here hx rfl hd rfl k) K
theorem V.ishl (X : Stand p l e R s m args below meth c T locs cells slots) (hx : p.tables.exec = Jvm.exec) {x y : Int32} (pc' : Nat) (hd : decode c.code pc = .ok (.ishl, 1)) (hp : pc + 1 = pc') (K : WpV p e s0 below Q kc ks (T.setTop (mkF m pc' Ls (.int (x <<< (y &&& 31)) :: st)))) : WpV p e s0 below Q kc ks (T.setTop (mkF m pc Ls (.int y :: .int x :: st))) := by
  subst hp; exact WpV.step (fun _ k => XS.ishl X.here hx rfl hd rfl k) K
theorem V.ishr (X : Stand p l e R s m args below meth c T locs cells slots) (hx : p.tables.exec = Jvm.exec) {x y : Int32} (pc' : Nat) (hd : decode c.code pc = .ok (.ishr, 1)) (hp : pc + 1 = pc') (K : WpV p e s0 below Q kc ks (T.setTop (mkF m pc' Ls (.int (x >>> (y &&& 31)) :: st)))) : WpV p e s0 below Q kc ks (T.setTop (mkF m pc Ls (.int y :: .int x :: st))) := by
  subst hp; exact WpV.step (fun _ k => XS.ishr X.here hx rfl hd rfl k) K
theorem V.iushr (X : Stand p l e R s m args below meth c T locs cells slots) (hx : p.tables.exec = Jvm.exec) {x y : Int32} (pc' : Nat) (hd : decode c.code pc = .ok (.iushr, 1)) (hp : pc + 1 = pc') (K : WpV p e s0 below Q kc ks (T.setTop (mkF m pc' Ls (.int ((x.toUInt32 >>> (y &&& 31).toUInt32).toInt32) :: st)))) : WpV p e s0 below Q kc ks (T.setTop (mkF m pc Ls (.int y :: .int x :: st))) := by
  subst hp; exact WpV.step (fun _ k => XS.iushr X.here hx rfl hd rfl k) K
theorem V.lshl (X : Stand p l e R s m args below meth c T locs cells slots) (hx : p.tables.exec = Jvm.exec) {x : Int64} {y : Int32} (pc' : Nat) (hd : decode c.code pc = .ok (.lshl, 1)) (hp : pc + 1 = pc') (K : WpV p e s0 below Q kc ks (T.setTop (mkF m pc' Ls (.long (x <<< (y &&& 0x3f).toInt64) :: st)))) : WpV p e s0 below Q kc ks (T.setTop (mkF m pc Ls (.int y :: .long x :: st))) := by
  subst hp; exact WpV.step (fun _ k => XS.lshl X.here hx rfl hd rfl k) K
theorem V.lshr (X : Stand p l e R s m args below meth c T locs cells slots) (hx : p.tables.exec = Jvm.exec) {x : Int64} {y : Int32} (pc' : Nat) (hd : decode c.code pc = .ok (.lshr, 1)) (hp : pc + 1 = pc') (K : WpV p e s0 below Q kc ks (T.setTop (mkF m pc' Ls (.long (x >>> (y &&& 0x3f).toInt64) :: st)))) : WpV p e s0 below Q kc ks (T.setTop (mkF m pc Ls (.int y :: .long x :: st))) := by
  subst hp; exact WpV.step (fun _ k => XS.lshr X.here hx rfl hd rfl k) K
theorem V.lushr (X : Stand p l e R s m args below meth c T locs cells slots) (hx : p.tables.exec = Jvm.exec) {x : Int64} {y : Int32} (pc' : Nat) (hd : decode c.code pc = .ok (.lushr, 1)) (hp : pc + 1 = pc') (K : WpV p e s0 below Q kc ks (T.setTop (mkF m pc' Ls (.long ((x.toUInt64 >>> (y &&& 0x3f).toInt64.toUInt64).toInt64) :: st)))) : WpV p e s0 below Q kc ks (T.setTop (mkF m pc Ls (.int y :: .long x :: st))) := by
  subst hp; exact WpV.step (fun _ k => XS.lushr X.here hx rfl hd rfl k) K
theorem V.lcmp (X : Stand p l e R s m args below meth c T locs cells slots) (hx : p.tables.exec = Jvm.exec) {x y : Int64} (pc' : Nat) (hd : decode c.code pc = .ok (.lcmp, 1)) (hp : pc + 1 = pc') (K : WpV p e s0 below Q kc ks (T.setTop (mkF m pc' Ls (.int (lcmpW x y) :: st)))) : WpV p e s0 below Q kc ks (T.setTop (mkF m pc Ls (.long y :: .long x :: st))) := by
  subst hp; exact WpV.step (fun _ k => XS.lcmp X.here hx rfl hd rfl k) K
theorem V.irem (X : Stand p l e R s m args below meth c T locs cells slots) (hx : p.tables.exec = Jvm.exec) {x y : Int32} (pc' : Nat) (hd : decode c.code pc = .ok (.irem, 1)) (hy : y ≠ 0) (hp : pc + 1 = pc') (K : WpV p e s0 below Q kc ks (T.setTop (mkF m pc' Ls (.int (x % y) :: st)))) : WpV p e s0 below Q kc ks (T.setTop (mkF m pc Ls (.int y :: .int x :: st))) := by
  subst hp; exact WpV.step (fun _ k => iremM X hx (g := mkF m pc Ls (.int y :: .int x :: st)) rfl hd rfl hy k) K
theorem V.idiv (X : Stand p l e R s m args below meth c T locs cells slots) (hx : p.tables.exec = Jvm.exec) {x y : Int32} (pc' : Nat) (hd : decode c.code pc = .ok (.idiv, 1)) (hy : y ≠ 0) (hp : pc + 1 = pc') (K : WpV p e s0 below Q kc ks (T.setTop (mkF m pc' Ls (.int (x / y) :: st)))) : WpV p e s0 below Q kc ks (T.setTop (mkF m pc Ls (.int y :: .int x :: st))) := by
  subst hp; exact WpV.step (fun _ k => XS.idiv X.here hx rfl hd rfl hy k) K
theorem V.ineg (X : Stand p l e R s m args below meth c T locs cells slots) (hx : p.tables.exec = Jvm.exec) {x : Int32} (pc' : Nat) (hd : decode c.code pc = .ok (.ineg, 1)) (hp : pc + 1 = pc') (K : WpV p e s0 below Q kc ks (T.setTop (mkF m pc' Ls (.int (-x) :: st)))) : WpV p e s0 below Q kc ks (T.setTop (mkF m pc Ls (.int x :: st))) := by
  subst hp; exact WpV.step (fun _ k => XS.ineg X.here hx rfl hd rfl k) K
theorem V.lneg (X : Stand p l e R s m args below meth c T locs cells slots) (hx : p.tables.exec = Jvm.exec) {x : Int64} (pc' : Nat) (hd : decode c.code pc = .ok (.lneg, 1)) (hp : pc + 1 = pc') (K : WpV p e s0 below Q kc ks (T.setTop (mkF m pc' Ls (.long (-x) :: st)))) : WpV p e s0 below Q kc ks (T.setTop (mkF m pc Ls (.long x :: st))) := by
  subst hp; exact WpV.step (fun _ k => XS.lneg X.here hx rfl hd rfl k) K
theorem V.i2b (X : Stand p l e R s m args below meth c T locs cells slots) (hx : p.tables.exec = Jvm.exec) {x : Int32} (pc' : Nat) (hd : decode c.code pc = .ok (.i2b, 1)) (hp : pc + 1 = pc') (K : WpV p e s0 below Q kc ks (T.setTop (mkF m pc' Ls (.int x.toInt8.toInt32 :: st)))) : WpV p e s0 below Q kc ks (T.setTop (mkF m pc Ls (.int x :: st))) := by
  subst hp; exact WpV.step (fun _ k => XS.i2b X.here hx rfl hd rfl k) K
theorem V.i2c (X : Stand p l e R s m args below meth c T locs cells slots) (hx : p.tables.exec = Jvm.exec) {x : Int32} (pc' : Nat) (hd : decode c.code pc = .ok (.i2c, 1)) (hp : pc + 1 = pc') (K : WpV p e s0 below Q kc ks (T.setTop (mkF m pc' Ls (.int x.toUInt32.toUInt16.toUInt32.toInt32 :: st)))) : WpV p e s0 below Q kc ks (T.setTop (mkF m pc Ls (.int x :: st))) := by
  subst hp; exact WpV.step (fun _ k => XS.i2c X.here hx rfl hd rfl k) K
theorem V.i2s (X : Stand p l e R s m args below meth c T locs cells slots) (hx : p.tables.exec = Jvm.exec) {x : Int32} (pc' : Nat) (hd : decode c.code pc = .ok (.i2s, 1)) (hp : pc + 1 = pc') (K : WpV p e s0 below Q kc ks (T.setTop (mkF m pc' Ls (.int x.toInt16.toInt32 :: st)))) : WpV p e s0 below Q kc ks (T.setTop (mkF m pc Ls (.int x :: st))) := by
  subst hp; exact WpV.step (fun _ k => XS.i2s X.here hx rfl hd rfl k) K
theorem V.i2l (X : Stand p l e R s m args below meth c T locs cells slots) (hx : p.tables.exec = Jvm.exec) {x : Int32} (pc' : Nat) (hd : decode c.code pc = .ok (.i2l, 1)) (hp : pc + 1 = pc') (K : WpV p e s0 below Q kc ks (T.setTop (mkF m pc' Ls (.long x.toInt64 :: st)))) : WpV p e s0 below Q kc ks (T.setTop (mkF m pc Ls (.int x :: st))) := by
  subst hp; exact WpV.step (fun _ k => XS.i2l X.here hx rfl hd rfl k) K
theorem V.l2i (X : Stand p l e R s m args below meth c T locs cells slots) (hx : p.tables.exec = Jvm.exec) {x : Int64} (pc' : Nat) (hd : decode c.code pc = .ok (.l2i, 1)) (hp : pc + 1 = pc') (K : WpV p e s0 below Q kc ks (T.setTop (mkF m pc' Ls (.int x.toInt32 :: st)))) : WpV p e s0 below Q kc ks (T.setTop (mkF m pc Ls (.long x :: st))) := by
  subst hp; exact WpV.step (fun _ k => XS.l2i X.here hx rfl hd rfl k) K
theorem V.dup (X : Stand p l e R s m args below meth c T locs cells slots) (hx : p.tables.exec = Jvm.exec) {x : Value} (pc' : Nat) (hd : decode c.code pc = .ok (.dup, 1)) (hc : x.category = 1) (hp : pc + 1 = pc') (K : WpV p e s0 below Q kc ks (T.setTop (mkF m pc' Ls (x :: x :: st)))) : WpV p e s0 below Q kc ks (T.setTop (mkF m pc Ls (x :: st))) := by
  subst hp; exact WpV.step (fun _ k => XS.dup X.here hx rfl hd rfl hc k) K
theorem V.pop1 (X : Stand p l e R s m args below meth c T locs cells slots) (hx : p.tables.exec = Jvm.exec) {x : Value} (pc' : Nat) (hd : decode c.code pc = .ok (.pop, 1)) (hc : x.category = 1) (hp : pc + 1 = pc') (K : WpV p e s0 below Q kc ks (T.setTop (mkF m pc' Ls st))) : WpV p e s0 below Q kc ks (T.setTop (mkF m pc Ls (x :: st))) := by
  subst hp; exact WpV.step (fun _ k => XS.pop X.here hx rfl hd rfl hc k) K
theorem V.dup2 (X : Stand p l e R s m args below meth c T locs cells slots) (hx : p.tables.exec = Jvm.exec) {x y : Value} (pc' : Nat) (hd : decode c.code pc = .ok (.dup2, 1)) (hc : x.category = 1) (hc' : y.category = 1) (hp : pc + 1 = pc') (K : WpV p e s0 below Q kc ks (T.setTop (mkF m pc' Ls (x :: y :: x :: y :: st)))) : WpV p e s0 below Q kc ks (T.setTop (mkF m pc Ls (x :: y :: st))) := by
  subst hp; exact WpV.step (fun _ k => XT.dup2 X.here hx rfl hd rfl hc hc' k) K
theorem V.dupX1 (X : Stand p l e R s m args below meth c T locs cells slots) (hx : p.tables.exec = Jvm.exec) {x y : Value} (pc' : Nat) (hd : decode c.code pc = .ok (.dup_x1, 1)) (hc : x.category = 1) (hc' : y.category = 1) (hp : pc + 1 = pc') (K : WpV p e s0 below Q kc ks (T.setTop (mkF m pc' Ls (x :: y :: x :: st)))) : WpV p e s0 below Q kc ks (T.setTop (mkF m pc Ls (x :: y :: st))) := by
  subst hp; exact WpV.step (fun _ k => XS.dupX1 X.here hx rfl hd rfl hc hc' k) K
theorem V.goto (X : Stand p l e R s m args below meth c T locs cells slots) (hx : p.tables.exec = Jvm.exec) {o : Int} (pc' : Nat) (hd : decode c.code pc = .ok (.goto o, 3)) (ho : 0 ≤ (pc : Int) + o) (hp : ((pc : Int) + o).toNat = pc') (K : WpV p e s0 below Q kc ks (T.setTop (mkF m pc' Ls st))) : WpV p e s0 below Q kc ks (T.setTop (mkF m pc Ls st)) :=
  WpV.step (fun _ k => XS.goto X.here hx rfl rfl hd ho hp k) K
theorem V.icmp (X : Stand p l e R s m args below meth c T locs cells slots) (hx : p.tables.exec = Jvm.exec) {cd : ClassFile.Cond} {o : Int} {x y : Int32} (pcT pcF : Nat) (hd : decode c.code pc = .ok (.if_icmp cd o, 3)) (ho : 0 ≤ (pc : Int) + o) (hp : ((pc : Int) + o).toNat = pcT) (hq : pc + 3 = pcF) (KT : if_icmp.holds cd x y = true → WpV p e s0 below Q kc ks (T.setTop (mkF m pcT Ls st))) (KF : if_icmp.holds cd x y = false → WpV p e s0 below Q kc ks (T.setTop (mkF m pcF Ls st))) : WpV p e s0 below Q kc ks (T.setTop (mkF m pc Ls (.int y :: .int x :: st))) := by
  subst hq
  cases hh : if_icmp.holds cd x y
  · exact WpV.step (fun _ k => XS.icmpNo X.here hx rfl hd rfl hh k) (KF hh)
  · exact WpV.step (fun _ k => XS.icmpYes X.here hx rfl rfl hd rfl hh ho hp k) (KT hh)
theorem V.ifc (X : Stand p l e R s m args below meth c T locs cells slots) (hx : p.tables.exec = Jvm.exec) {cd : ClassFile.Cond} {o : Int} {x : Int32} (pcT pcF : Nat) (hd : decode c.code pc = .ok (.ifCond cd o, 3)) (ho : 0 ≤ (pc : Int) + o) (hp : ((pc : Int) + o).toNat = pcT) (hq : pc + 3 = pcF) (KT : if_icmp.holds cd x 0 = true → WpV p e s0 below Q kc ks (T.setTop (mkF m pcT Ls st))) (KF : if_icmp.holds cd x 0 = false → WpV p e s0 below Q kc ks (T.setTop (mkF m pcF Ls st))) : WpV p e s0 below Q kc ks (T.setTop (mkF m pc Ls (.int x :: st))) := by
  subst hq
  rw [← if0] at KT KF
  cases hh : ifCond.holds cd x
  · exact WpV.step (fun _ k => XS.ifNo X.here hx rfl hd rfl hh k) (KF hh)
  · exact WpV.step (fun _ k => XS.ifYes X.here hx rfl rfl hd rfl hh ho hp k) (KT hh)
theorem V.icmpEq (X : Stand p l e R s m args below meth c T locs cells slots) (hx : p.tables.exec = Jvm.exec) {o : Int} {x y : Int32} (pcT pcF : Nat) (hd : decode c.code pc = .ok (.if_icmp .eq o, 3)) (ho : 0 ≤ (pc : Int) + o) (hp : ((pc : Int) + o).toNat = pcT) (hq : pc + 3 = pcF) (KT : x = y → WpV p e s0 below Q kc ks (T.setTop (mkF m pcT Ls st))) (KF : ¬ x = y → WpV p e s0 below Q kc ks (T.setTop (mkF m pcF Ls st))) : WpV p e s0 below Q kc ks (T.setTop (mkF m pc Ls (.int y :: .int x :: st))) :=
  V.icmp X hx pcT pcF hd ho hp hq (fun hh => KT (Decidable.byContradiction fun q => by rw [(feq q).1] at hh; cases hh)) (fun hh => KF (fun q => by rw [(teq q).1] at hh; cases hh))
theorem V.ifEq (X : Stand p l e R s m args below meth c T locs cells slots) (hx : p.tables.exec = Jvm.exec) {o : Int} {x : Int32} (pcT pcF : Nat) (hd : decode c.code pc = .ok (.ifCond .eq o, 3)) (ho : 0 ≤ (pc : Int) + o) (hp : ((pc : Int) + o).toNat = pcT) (hq : pc + 3 = pcF) (KT : x = 0 → WpV p e s0 below Q kc ks (T.setTop (mkF m pcT Ls st))) (KF : ¬ x = 0 → WpV p e s0 below Q kc ks (T.setTop (mkF m pcF Ls st))) : WpV p e s0 below Q kc ks (T.setTop (mkF m pc Ls (.int x :: st))) :=
  V.ifc X hx pcT pcF hd ho hp hq (fun hh => KT (Decidable.byContradiction fun q => by rw [(feq q).1] at hh; cases hh)) (fun hh => KF (fun q => by rw [(teq q).1] at hh; cases hh))
theorem V.icmpNe (X : Stand p l e R s m args below meth c T locs cells slots) (hx : p.tables.exec = Jvm.exec) {o : Int} {x y : Int32} (pcT pcF : Nat) (hd : decode c.code pc = .ok (.if_icmp .ne o, 3)) (ho : 0 ≤ (pc : Int) + o) (hp : ((pc : Int) + o).toNat = pcT) (hq : pc + 3 = pcF) (KT : ¬ x = y → WpV p e s0 below Q kc ks (T.setTop (mkF m pcT Ls st))) (KF : x = y → WpV p e s0 below Q kc ks (T.setTop (mkF m pcF Ls st))) : WpV p e s0 below Q kc ks (T.setTop (mkF m pc Ls (.int y :: .int x :: st))) :=
  V.icmp X hx pcT pcF hd ho hp hq (fun hh => KT (fun q => by rw [(teq q).2] at hh; cases hh)) (fun hh => KF (Decidable.byContradiction fun q => by rw [(feq q).2] at hh; cases hh))
theorem V.ifNe (X : Stand p l e R s m args below meth c T locs cells slots) (hx : p.tables.exec = Jvm.exec) {o : Int} {x : Int32} (pcT pcF : Nat) (hd : decode c.code pc = .ok (.ifCond .ne o, 3)) (ho : 0 ≤ (pc : Int) + o) (hp : ((pc : Int) + o).toNat = pcT) (hq : pc + 3 = pcF) (KT : ¬ x = 0 → WpV p e s0 below Q kc ks (T.setTop (mkF m pcT Ls st))) (KF : x = 0 → WpV p e s0 below Q kc ks (T.setTop (mkF m pcF Ls st))) : WpV p e s0 below Q kc ks (T.setTop (mkF m pc Ls (.int x :: st))) :=
  V.ifc X hx pcT pcF hd ho hp hq (fun hh => KT (fun q => by rw [(teq q).2] at hh; cases hh)) (fun hh => KF (Decidable.byContradiction fun q => by rw [(feq q).2] at hh; cases hh))
theorem V.icmpLt (X : Stand p l e R s m args below meth c T locs cells slots) (hx : p.tables.exec = Jvm.exec) {o : Int} {x y : Int32} (pcT pcF : Nat) (hd : decode c.code pc = .ok (.if_icmp .lt o, 3)) (ho : 0 ≤ (pc : Int) + o) (hp : ((pc : Int) + o).toNat = pcT) (hq : pc + 3 = pcF) (KT : x < y → WpV p e s0 below Q kc ks (T.setTop (mkF m pcT Ls st))) (KF : ¬ x < y → WpV p e s0 below Q kc ks (T.setTop (mkF m pcF Ls st))) : WpV p e s0 below Q kc ks (T.setTop (mkF m pc Ls (.int y :: .int x :: st))) :=
  V.icmp X hx pcT pcF hd ho hp hq (fun hh => KT (Decidable.byContradiction fun q => by rw [(flt q).1] at hh; cases hh)) (fun hh => KF (fun q => by rw [(tlt q).1] at hh; cases hh))
theorem V.ifLt (X : Stand p l e R s m args below meth c T locs cells slots) (hx : p.tables.exec = Jvm.exec) {o : Int} {x : Int32} (pcT pcF : Nat) (hd : decode c.code pc = .ok (.ifCond .lt o, 3)) (ho : 0 ≤ (pc : Int) + o) (hp : ((pc : Int) + o).toNat = pcT) (hq : pc + 3 = pcF) (KT : x < 0 → WpV p e s0 below Q kc ks (T.setTop (mkF m pcT Ls st))) (KF : ¬ x < 0 → WpV p e s0 below Q kc ks (T.setTop (mkF m pcF Ls st))) : WpV p e s0 below Q kc ks (T.setTop (mkF m pc Ls (.int x :: st))) :=
  V.ifc X hx pcT pcF hd ho hp hq (fun hh => KT (Decidable.byContradiction fun q => by rw [(flt q).1] at hh; cases hh)) (fun hh => KF (fun q => by rw [(tlt q).1] at hh; cases hh))
theorem V.icmpGe (X : Stand p l e R s m args below meth c T locs cells slots) (hx : p.tables.exec = Jvm.exec) {o : Int} {x y : Int32} (pcT pcF : Nat) (hd : decode c.code pc = .ok (.if_icmp .ge o, 3)) (ho : 0 ≤ (pc : Int) + o) (hp : ((pc : Int) + o).toNat = pcT) (hq : pc + 3 = pcF) (KT : ¬ x < y → WpV p e s0 below Q kc ks (T.setTop (mkF m pcT Ls st))) (KF : x < y → WpV p e s0 below Q kc ks (T.setTop (mkF m pcF Ls st))) : WpV p e s0 below Q kc ks (T.setTop (mkF m pc Ls (.int y :: .int x :: st))) :=
  V.icmp X hx pcT pcF hd ho hp hq (fun hh => KT (fun q => by rw [(tlt q).2.1] at hh; cases hh)) (fun hh => KF (Decidable.byContradiction fun q => by rw [(flt q).2.1] at hh; cases hh))
theorem V.ifGe (X : Stand p l e R s m args below meth c T locs cells slots) (hx : p.tables.exec = Jvm.exec) {o : Int} {x : Int32} (pcT pcF : Nat) (hd : decode c.code pc = .ok (.ifCond .ge o, 3)) (ho : 0 ≤ (pc : Int) + o) (hp : ((pc : Int) + o).toNat = pcT) (hq : pc + 3 = pcF) (KT : ¬ x < 0 → WpV p e s0 below Q kc ks (T.setTop (mkF m pcT Ls st))) (KF : x < 0 → WpV p e s0 below Q kc ks (T.setTop (mkF m pcF Ls st))) : WpV p e s0 below Q kc ks (T.setTop (mkF m pc Ls (.int x :: st))) :=
  V.ifc X hx pcT pcF hd ho hp hq (fun hh => KT (fun q => by rw [(tlt q).2.1] at hh; cases hh)) (fun hh => KF (Decidable.byContradiction fun q => by rw [(flt q).2.1] at hh; cases hh))
theorem V.icmpGt (X : Stand p l e R s m args below meth c T locs cells slots) (hx : p.tables.exec = Jvm.exec) {o : Int} {x y : Int32} (pcT pcF : Nat) (hd : decode c.code pc = .ok (.if_icmp .gt o, 3)) (ho : 0 ≤ (pc : Int) + o) (hp : ((pc : Int) + o).toNat = pcT) (hq : pc + 3 = pcF) (KT : y < x → WpV p e s0 below Q kc ks (T.setTop (mkF m pcT Ls st))) (KF : ¬ y < x → WpV p e s0 below Q kc ks (T.setTop (mkF m pcF Ls st))) : WpV p e s0 below Q kc ks (T.setTop (mkF m pc Ls (.int y :: .int x :: st))) :=
  V.icmp X hx pcT pcF hd ho hp hq (fun hh => KT (Decidable.byContradiction fun q => by rw [(flt q).2.2.1] at hh; cases hh)) (fun hh => KF (fun q => by rw [(tlt q).2.2.1] at hh; cases hh))
theorem V.ifGt (X : Stand p l e R s m args below meth c T locs cells slots) (hx : p.tables.exec = Jvm.exec) {o : Int} {x : Int32} (pcT pcF : Nat) (hd : decode c.code pc = .ok (.ifCond .gt o, 3)) (ho : 0 ≤ (pc : Int) + o) (hp : ((pc : Int) + o).toNat = pcT) (hq : pc + 3 = pcF) (KT : 0 < x → WpV p e s0 below Q kc ks (T.setTop (mkF m pcT Ls st))) (KF : ¬ 0 < x → WpV p e s0 below Q kc ks (T.setTop (mkF m pcF Ls st))) : WpV p e s0 below Q kc ks (T.setTop (mkF m pc Ls (.int x :: st))) :=
  V.ifc X hx pcT pcF hd ho hp hq (fun hh => KT (Decidable.byContradiction fun q => by rw [(flt q).2.2.1] at hh; cases hh)) (fun hh => KF (fun q => by rw [(tlt q).2.2.1] at hh; cases hh))
theorem V.icmpLe (X : Stand p l e R s m args below meth c T locs cells slots) (hx : p.tables.exec = Jvm.exec) {o : Int} {x y : Int32} (pcT pcF : Nat) (hd : decode c.code pc = .ok (.if_icmp .le o, 3)) (ho : 0 ≤ (pc : Int) + o) (hp : ((pc : Int) + o).toNat = pcT) (hq : pc + 3 = pcF) (KT : ¬ y < x → WpV p e s0 below Q kc ks (T.setTop (mkF m pcT Ls st))) (KF : y < x → WpV p e s0 below Q kc ks (T.setTop (mkF m pcF Ls st))) : WpV p e s0 below Q kc ks (T.setTop (mkF m pc Ls (.int y :: .int x :: st))) :=
  V.icmp X hx pcT pcF hd ho hp hq (fun hh => KT (fun q => by rw [(tlt q).2.2.2] at hh; cases hh)) (fun hh => KF (Decidable.byContradiction fun q => by rw [(flt q).2.2.2] at hh; cases hh))
theorem V.ifLe (X : Stand p l e R s m args below meth c T locs cells slots) (hx : p.tables.exec = Jvm.exec) {o : Int} {x : Int32} (pcT pcF : Nat) (hd : decode c.code pc = .ok (.ifCond .le o, 3)) (ho : 0 ≤ (pc : Int) + o) (hp : ((pc : Int) + o).toNat = pcT) (hq : pc + 3 = pcF) (KT : ¬ 0 < x → WpV p e s0 below Q kc ks (T.setTop (mkF m pcT Ls st))) (KF : 0 < x → WpV p e s0 below Q kc ks (T.setTop (mkF m pcF Ls st))) : WpV p e s0 below Q kc ks (T.setTop (mkF m pc Ls (.int x :: st))) :=
  V.ifc X hx pcT pcF hd ho hp hq (fun hh => KT (fun q => by rw [(tlt q).2.2.2] at hh; cases hh)) (fun hh => KF (Decidable.byContradiction fun q => by rw [(flt q).2.2.2] at hh; cases hh))
theorem V.lifEq (X : Stand p l e R s m args below meth c T locs cells slots) (hx : p.tables.exec = Jvm.exec) {o : Int} {x y : Int64} (pcT pcF : Nat) (hd : decode c.code pc = .ok (.ifCond .eq o, 3)) (ho : 0 ≤ (pc : Int) + o) (hp : ((pc : Int) + o).toNat = pcT) (hq : pc + 3 = pcF) (KT : x = y → WpV p e s0 below Q kc ks (T.setTop (mkF m pcT Ls st))) (KF : ¬ x = y → WpV p e s0 below Q kc ks (T.setTop (mkF m pcF Ls st))) : WpV p e s0 below Q kc ks (T.setTop (mkF m pc Ls (.int (lcmpW x y) :: st))) :=
  V.ifEq X hx pcT pcF hd ho hp hq (fun q => KT ((lw_eq x y).mp q)) (fun q => KF (fun r => q ((lw_eq x y).mpr r)))
theorem V.lifNe (X : Stand p l e R s m args below meth c T locs cells slots) (hx : p.tables.exec = Jvm.exec) {o : Int} {x y : Int64} (pcT pcF : Nat) (hd : decode c.code pc = .ok (.ifCond .ne o, 3)) (ho : 0 ≤ (pc : Int) + o) (hp : ((pc : Int) + o).toNat = pcT) (hq : pc + 3 = pcF) (KT : ¬ x = y → WpV p e s0 below Q kc ks (T.setTop (mkF m pcT Ls st))) (KF : x = y → WpV p e s0 below Q kc ks (T.setTop (mkF m pcF Ls st))) : WpV p e s0 below Q kc ks (T.setTop (mkF m pc Ls (.int (lcmpW x y) :: st))) :=
  V.ifNe X hx pcT pcF hd ho hp hq (fun q => KT (fun r => q ((lw_eq x y).mpr r))) (fun q => KF ((lw_eq x y).mp q))
theorem V.lifLt (X : Stand p l e R s m args below meth c T locs cells slots) (hx : p.tables.exec = Jvm.exec) {o : Int} {x y : Int64} (pcT pcF : Nat) (hd : decode c.code pc = .ok (.ifCond .lt o, 3)) (ho : 0 ≤ (pc : Int) + o) (hp : ((pc : Int) + o).toNat = pcT) (hq : pc + 3 = pcF) (KT : x < y → WpV p e s0 below Q kc ks (T.setTop (mkF m pcT Ls st))) (KF : ¬ x < y → WpV p e s0 below Q kc ks (T.setTop (mkF m pcF Ls st))) : WpV p e s0 below Q kc ks (T.setTop (mkF m pc Ls (.int (lcmpW x y) :: st))) :=
  V.ifLt X hx pcT pcF hd ho hp hq (fun q => KT ((lw_lt x y).mp q)) (fun q => KF (fun r => q ((lw_lt x y).mpr r)))
theorem V.lifGe (X : Stand p l e R s m args below meth c T locs cells slots) (hx : p.tables.exec = Jvm.exec) {o : Int} {x y : Int64} (pcT pcF : Nat) (hd : decode c.code pc = .ok (.ifCond .ge o, 3)) (ho : 0 ≤ (pc : Int) + o) (hp : ((pc : Int) + o).toNat = pcT) (hq : pc + 3 = pcF) (KT : ¬ x < y → WpV p e s0 below Q kc ks (T.setTop (mkF m pcT Ls st))) (KF : x < y → WpV p e s0 below Q kc ks (T.setTop (mkF m pcF Ls st))) : WpV p e s0 below Q kc ks (T.setTop (mkF m pc Ls (.int (lcmpW x y) :: st))) :=
  V.ifGe X hx pcT pcF hd ho hp hq (fun q => KT (fun r => q ((lw_lt x y).mpr r))) (fun q => KF ((lw_lt x y).mp q))
theorem V.lifGt (X : Stand p l e R s m args below meth c T locs cells slots) (hx : p.tables.exec = Jvm.exec) {o : Int} {x y : Int64} (pcT pcF : Nat) (hd : decode c.code pc = .ok (.ifCond .gt o, 3)) (ho : 0 ≤ (pc : Int) + o) (hp : ((pc : Int) + o).toNat = pcT) (hq : pc + 3 = pcF) (KT : y < x → WpV p e s0 below Q kc ks (T.setTop (mkF m pcT Ls st))) (KF : ¬ y < x → WpV p e s0 below Q kc ks (T.setTop (mkF m pcF Ls st))) : WpV p e s0 below Q kc ks (T.setTop (mkF m pc Ls (.int (lcmpW x y) :: st))) :=
  V.ifGt X hx pcT pcF hd ho hp hq (fun q => KT ((lw_gt x y).mp q)) (fun q => KF (fun r => q ((lw_gt x y).mpr r)))
theorem V.lifLe (X : Stand p l e R s m args below meth c T locs cells slots) (hx : p.tables.exec = Jvm.exec) {o : Int} {x y : Int64} (pcT pcF : Nat) (hd : decode c.code pc = .ok (.ifCond .le o, 3)) (ho : 0 ≤ (pc : Int) + o) (hp : ((pc : Int) + o).toNat = pcT) (hq : pc + 3 = pcF) (KT : ¬ y < x → WpV p e s0 below Q kc ks (T.setTop (mkF m pcT Ls st))) (KF : y < x → WpV p e s0 below Q kc ks (T.setTop (mkF m pcF Ls st))) : WpV p e s0 below Q kc ks (T.setTop (mkF m pc Ls (.int (lcmpW x y) :: st))) :=
  V.ifLe X hx pcT pcF hd ho hp hq (fun q => KT (fun r => q ((lw_gt x y).mpr r))) (fun q => KF ((lw_gt x y).mp q))
theorem V.nonnullR (X : Stand p l e R s m args below meth c T locs cells slots) (hx : p.tables.exec = Jvm.exec) {o : Int} {b : Addr} (pcT : Nat) (hd : decode c.code pc = .ok (.ifnonnull o, 3)) (ho : 0 ≤ (pc : Int) + o) (hp : ((pc : Int) + o).toNat = pcT) (K : WpV p e s0 below Q kc ks (T.setTop (mkF m pcT Ls st))) : WpV p e s0 below Q kc ks (T.setTop (mkF m pc Ls (.ref b :: st))) :=
  WpV.step (fun _ k => XS.ifnonnullYes X.here hx rfl rfl hd rfl ho hp k) K
theorem V.nonnullN (X : Stand p l e R s m args below meth c T locs cells slots) (hx : p.tables.exec = Jvm.exec) {o : Int} (pc' : Nat) (hd : decode c.code pc = .ok (.ifnonnull o, 3)) (hp : pc + 3 = pc') (K : WpV p e s0 below Q kc ks (T.setTop (mkF m pc' Ls st))) : WpV p e s0 below Q kc ks (T.setTop (mkF m pc Ls (.null :: st))) := by
  subst hp; exact WpV.step (fun _ k => XS.ifnonnullNo X.here hx rfl hd rfl k) K
theorem V.nullN (X : Stand p l e R s m args below meth c T locs cells slots) (hx : p.tables.exec = Jvm.exec) {o : Int} (pcT : Nat) (hd : decode c.code pc = .ok (.ifnull o, 3)) (ho : 0 ≤ (pc : Int) + o) (hp : ((pc : Int) + o).toNat = pcT) (K : WpV p e s0 below Q kc ks (T.setTop (mkF m pcT Ls st))) : WpV p e s0 below Q kc ks (T.setTop (mkF m pc Ls (.null :: st))) :=
  WpV.step (fun _ k => XS.ifnullYes X.here hx rfl rfl hd rfl ho hp k) K
theorem V.nullR (X : Stand p l e R s m args below meth c T locs cells slots) (hx : p.tables.exec = Jvm.exec) {o : Int} {b : Addr} (pc' : Nat) (hd : decode c.code pc = .ok (.ifnull o, 3)) (hp : pc + 3 = pc') (K : WpV p e s0 below Q kc ks (T.setTop (mkF m pc' Ls st))) : WpV p e s0 below Q kc ks (T.setTop (mkF m pc Ls (.ref b :: st))) := by
  subst hp; exact WpV.step (fun _ k => XS.ifnullNo X.here hx rfl hd rfl k) K
theorem V.acmpE (X : Stand p l e R s m args below meth c T locs cells slots) (hx : p.tables.exec = Jvm.exec) {o : Int} {x y : Value} (pcT pcF : Nat) (h1 : x.isRef = true) (h2 : y.isRef = true) (hd : decode c.code pc = .ok (.if_acmp .eq o, 3)) (ho : 0 ≤ (pc : Int) + o) (hp : ((pc : Int) + o).toNat = pcT) (hq : pc + 3 = pcF) (KT : x = y → WpV p e s0 below Q kc ks (T.setTop (mkF m pcT Ls st))) (KF : ¬ x = y → WpV p e s0 below Q kc ks (T.setTop (mkF m pcF Ls st))) : WpV p e s0 below Q kc ks (T.setTop (mkF m pc Ls (y :: x :: st))) := by
  by_cases q : x = y
  · exact WpV.step (fun _ k => acmp X hx (g := mkF m pc Ls (y :: x :: st)) rfl h1 h2 rfl hd rfl (same := true) (by simp [q]) ho (pc' := pcT) (by simp [acV, hp]) k) (KT q)
  · exact WpV.step (fun _ k => acmp X hx (g := mkF m pc Ls (y :: x :: st)) rfl h1 h2 rfl hd rfl (same := false) (by simp [q]) ho (pc' := pcF) (by simp [acV, hq]) k) (KF q)
theorem V.acmpN (X : Stand p l e R s m args below meth c T locs cells slots) (hx : p.tables.exec = Jvm.exec) {o : Int} {x y : Value} (pcT pcF : Nat) (h1 : x.isRef = true) (h2 : y.isRef = true) (hd : decode c.code pc = .ok (.if_acmp .ne o, 3)) (ho : 0 ≤ (pc : Int) + o) (hp : ((pc : Int) + o).toNat = pcT) (hq : pc + 3 = pcF) (KT : ¬ x = y → WpV p e s0 below Q kc ks (T.setTop (mkF m pcT Ls st))) (KF : x = y → WpV p e s0 below Q kc ks (T.setTop (mkF m pcF Ls st))) : WpV p e s0 below Q kc ks (T.setTop (mkF m pc Ls (y :: x :: st))) := by
  by_cases q : x = y
  · exact WpV.step (fun _ k => acmp X hx (g := mkF m pc Ls (y :: x :: st)) rfl h1 h2 rfl hd rfl (same := true) (by simp [q]) ho (pc' := pcF) (by simp [acV, hq]) k) (KF q)
  · exact WpV.step (fun _ k => acmp X hx (g := mkF m pc Ls (y :: x :: st)) rfl h1 h2 rfl hd rfl (same := false) (by simp [q]) ho (pc' := pcT) (by simp [acV, hp]) k) (KT q)
theorem V.newarr (X : Stand p l e R s m args below meth c T locs cells slots) (hx : p.tables.exec = Jvm.exec) (hZ : Z.Warmed39 s.vm) {aty : ArrayType} {z : Int32} (pc' : Nat) (k cap : Nat) (w : (Jvm.Cond.arrayClass (newarray.typeOf aty)).before a0 Z = true) (eT : T.heap = h) (hd : decode c.code pc = .ok (.newarray aty, 2)) (hz : z.toInt = (k : Int)) (hcap : k ≤ cap) (hb : cap * 8 ≤ 536870912) (hc : cells + 1 ≤ R.cells) (hl : slots + cap ≤ R.slots) (hp : pc + 2 = pc')
    (K : ∀ T' h' a, a = h.size → Stand p l e R s m args below meth c T' locs (cells + 1) (slots + cap) → T'.heap = h' → Ext h h' → IArr Z h' a (newarray.typeOf aty) k (fun _ => defaultValue (newarray.typeOf aty)) → WpV p e s0 below Q kc ks (T'.setTop (mkF m pc' Ls (.ref a :: st)))) : WpV p e s0 below Q kc ks (T.setTop (mkF m pc Ls (.int z :: st))) := by
  subst hp
  obtain ⟨q1, q2⟩ := nat_of hz
  obtain ⟨T', h', cA, X', e', E, A, stp⟩ := newP X hx hZ w eT (g := mkF m pc Ls (.int z :: st)) rfl hd rfl q1 (cap := cap) (by omega) hb hc hl
  exact WpV.step stp (K T' h' _ rfl X' e' E (IArr.fresh A q2))
theorem V.arrlen (X : Stand p l e R s m args below meth c T locs cells slots) (hx : p.tables.exec = Jvm.exec) (hZ : Z.Warmed39 s.vm) (pc' : Nat) (eT : T.heap = h) (A : IArr Z h a ty n f) (v : Int32) (hv : n.toInt32 = v) (hd : decode c.code pc = .ok (.arraylength, 1)) (hp : pc + 1 = pc') (K : WpV p e s0 below Q kc ks (T.setTop (mkF m pc' Ls (.int v :: st)))) : WpV p e s0 below Q kc ks (T.setTop (mkF m pc Ls (.ref a :: st))) := by
  subst hp hv
  obtain ⟨cl, A, S, H⟩ := A
  subst S
  exact WpV.step (fun t k => X.arraylength hx (by rw [eT]; exact A.1) (State.isArrayOf_alike hZ.alike A.2.1) (g := mkF m pc Ls (.ref a :: st)) rfl rfl hd t k) K
theorem V.iaload (X : Stand p l e R s m args below meth c T locs cells slots) (hx : p.tables.exec = Jvm.exec) (hZ : Z.Warmed39 s.vm) {j : Int32} (pc' : Nat) (i : Nat) (v : Value) (eT : T.heap = h) (A : IArr Z h a .int n f) (hj : j.toInt = (i : Int)) (hi : i < n) (hv : f i = v) (hd : decode c.code pc = .ok (.iaload, 1)) (hp : pc + 1 = pc') (K : WpV p e s0 below Q kc ks (T.setTop (mkF m pc' Ls (v :: st)))) : WpV p e s0 below Q kc ks (T.setTop (mkF m pc Ls (.int j :: .ref a :: st))) := by
  subst hp hv
  obtain ⟨cl, A, S, H⟩ := A
  exact WpV.step (fun t k => X.iaload hx (by rw [eT]; exact A.1) (State.isArrayOf_alike hZ.alike A.2.1) A.2.2 (IArr.inb S hj hi) (by rw [(nat_of hj).2]; exact H i hi) (g := mkF m pc Ls (.int j :: .ref a :: st)) rfl rfl hd t k) K
theorem V.laload (X : Stand p l e R s m args below meth c T locs cells slots) (hx : p.tables.exec = Jvm.exec) (hZ : Z.Warmed39 s.vm) {j : Int32} (pc' : Nat) (i : Nat) (v : Value) (eT : T.heap = h) (A : IArr Z h a .long n f) (hj : j.toInt = (i : Int)) (hi : i < n) (hv : f i = v) (hd : decode c.code pc = .ok (.laload, 1)) (hp : pc + 1 = pc') (K : WpV p e s0 below Q kc ks (T.setTop (mkF m pc' Ls (v :: st)))) : WpV p e s0 below Q kc ks (T.setTop (mkF m pc Ls (.int j :: .ref a :: st))) := by
  subst hp hv
  obtain ⟨cl, A, S, H⟩ := A
  exact WpV.step (fun t k => X.laload hx (by rw [eT]; exact A.1) (State.isArrayOf_alike hZ.alike A.2.1) A.2.2 (IArr.inb S hj hi) (by rw [(nat_of hj).2]; exact H i hi) (g := mkF m pc Ls (.int j :: .ref a :: st)) rfl rfl hd t k) K
theorem V.caload (X : Stand p l e R s m args below meth c T locs cells slots) (hx : p.tables.exec = Jvm.exec) (hZ : Z.Warmed39 s.vm) {j : Int32} (pc' : Nat) (i : Nat) (v : Value) (eT : T.heap = h) (A : IArr Z h a .char n f) (hj : j.toInt = (i : Int)) (hi : i < n) (hv : f i = v) (hd : decode c.code pc = .ok (.caload, 1)) (hp : pc + 1 = pc') (K : WpV p e s0 below Q kc ks (T.setTop (mkF m pc' Ls (v :: st)))) : WpV p e s0 below Q kc ks (T.setTop (mkF m pc Ls (.int j :: .ref a :: st))) := by
  subst hp hv
  obtain ⟨cl, A, S, H⟩ := A
  exact WpV.step (fun t k => X.caload hx (by rw [eT]; exact A.1) (State.isArrayOf_alike hZ.alike A.2.1) A.2.2 (IArr.inb S hj hi) (by rw [(nat_of hj).2]; exact H i hi) (g := mkF m pc Ls (.int j :: .ref a :: st)) rfl rfl hd t k) K
theorem V.baload (X : Stand p l e R s m args below meth c T locs cells slots) (hx : p.tables.exec = Jvm.exec) (hZ : Z.Warmed39 s.vm) {j : Int32} (pc' : Nat) (i : Nat) (v : Value) (eT : T.heap = h) (A : IArr Z h a .byte n f) (hj : j.toInt = (i : Int)) (hi : i < n) (hv : f i = v) (hd : decode c.code pc = .ok (.baload, 1)) (hp : pc + 1 = pc') (K : WpV p e s0 below Q kc ks (T.setTop (mkF m pc' Ls (v :: st)))) : WpV p e s0 below Q kc ks (T.setTop (mkF m pc Ls (.int j :: .ref a :: st))) := by
  subst hp hv
  obtain ⟨cl, A, S, H⟩ := A
  exact WpV.step (fun t k => X.baloadBytes hx (by rw [eT]; exact A.1) (State.isArrayOf_alike hZ.alike A.2.1) A.2.2 (IArr.inb S hj hi) (by rw [(nat_of hj).2]; exact H i hi) (g := mkF m pc Ls (.int j :: .ref a :: st)) rfl rfl hd t k) K
theorem V.zaload (X : Stand p l e R s m args below meth c T locs cells slots) (hx : p.tables.exec = Jvm.exec) (hZ : Z.Warmed39 s.vm) {j : Int32} (pc' : Nat) (i : Nat) (v : Value) (eT : T.heap = h) (A : IArr Z h a .boolean n f) (hj : j.toInt = (i : Int)) (hi : i < n) (hv : f i = v) (hd : decode c.code pc = .ok (.baload, 1)) (hp : pc + 1 = pc') (K : WpV p e s0 below Q kc ks (T.setTop (mkF m pc' Ls (v :: st)))) : WpV p e s0 below Q kc ks (T.setTop (mkF m pc Ls (.int j :: .ref a :: st))) := by
  subst hp hv
  obtain ⟨cl, A, S, H⟩ := A
  exact WpV.step (fun t k => X.baloadBooleans hx (by rw [eT]; exact A.1) (State.isArrayOf_alike hZ.alike A.2.1) A.2.2 (IArr.inb S hj hi) (by rw [(nat_of hj).2]; exact H i hi) (g := mkF m pc Ls (.int j :: .ref a :: st)) rfl rfl hd t k) K
theorem V.aaload (X : Stand p l e R s m args below meth c T locs cells slots) (hx : p.tables.exec = Jvm.exec) (hZ : Z.Warmed39 s.vm) {j : Int32} (pc' : Nat) (i : Nat) (v : Value) (eT : T.heap = h) (A : IArr Z h a ty n f) (hty : ty.isReference = true) (hj : j.toInt = (i : Int)) (hi : i < n) (hv : f i = v) (hd : decode c.code pc = .ok (.aaload, 1)) (hp : pc + 1 = pc') (K : WpV p e s0 below Q kc ks (T.setTop (mkF m pc' Ls (v :: st)))) : WpV p e s0 below Q kc ks (T.setTop (mkF m pc Ls (.int j :: .ref a :: st))) := by
  subst hp hv
  obtain ⟨cl, A, S, H⟩ := A
  exact WpV.step (fun t k => X.aaload hx (by rw [eT]; exact A.1) (State.isArrayOf_alike hZ.alike A.2.1) hty A.2.2 (IArr.inb S hj hi) (by rw [(nat_of hj).2]; exact H i hi) (g := mkF m pc Ls (.int j :: .ref a :: st)) rfl rfl hd t k) K
theorem V.iastore (X : Stand p l e R s m args below meth c T locs cells slots) (hx : p.tables.exec = Jvm.exec) (hZ : Z.Warmed39 s.vm) {j : Int32} {x : Int32} (pc' : Nat) (i : Nat) (eT : T.heap = h) (A : IArr Z h a .int n f) (hj : j.toInt = (i : Int)) (hi : i < n) (hd : decode c.code pc = .ok (.iastore, 1)) (hp : pc + 1 = pc')
    (K : ∀ T' h', Stand p l e R s m args below meth c T' (locs ++ [⟨a, i⟩]) cells slots → T'.heap = h' → Wr h h' a i (.int x) → IArr Z h' a .int n (upd f i (.int x)) → WpV p e s0 below Q kc ks (T'.setTop (mkF m pc' Ls st))) : WpV p e s0 below Q kc ks (T.setTop (mkF m pc Ls (.int x :: .int j :: .ref a :: st))) := by
  subst hp
  obtain ⟨cl, A0, S, H⟩ := A
  obtain ⟨T', h', X', e', W, stp⟩ := stI X hx hZ eT A0 (IArr.inb S hj hi) (g := mkF m pc Ls (.int x :: .int j :: .ref a :: st)) rfl rfl hd
  rw [(nat_of hj).2] at X' W
  exact WpV.step stp (K T' h' X' e' W (IArr.same ⟨cl, A0, S, H⟩ W))
theorem V.lastore (X : Stand p l e R s m args below meth c T locs cells slots) (hx : p.tables.exec = Jvm.exec) (hZ : Z.Warmed39 s.vm) {j : Int32} {x : Int64} (pc' : Nat) (i : Nat) (eT : T.heap = h) (A : IArr Z h a .long n f) (hj : j.toInt = (i : Int)) (hi : i < n) (hd : decode c.code pc = .ok (.lastore, 1)) (hp : pc + 1 = pc')
    (K : ∀ T' h', Stand p l e R s m args below meth c T' (locs ++ [⟨a, i⟩]) cells slots → T'.heap = h' → Wr h h' a i (.long x) → IArr Z h' a .long n (upd f i (.long x)) → WpV p e s0 below Q kc ks (T'.setTop (mkF m pc' Ls st))) : WpV p e s0 below Q kc ks (T.setTop (mkF m pc Ls (.long x :: .int j :: .ref a :: st))) := by
  subst hp
  obtain ⟨cl, A0, S, H⟩ := A
  obtain ⟨T', h', X', e', W, stp⟩ := stJ X hx hZ eT A0 (IArr.inb S hj hi) (g := mkF m pc Ls (.long x :: .int j :: .ref a :: st)) rfl rfl hd
  rw [(nat_of hj).2] at X' W
  exact WpV.step stp (K T' h' X' e' W (IArr.same ⟨cl, A0, S, H⟩ W))
theorem V.castore (X : Stand p l e R s m args below meth c T locs cells slots) (hx : p.tables.exec = Jvm.exec) (hZ : Z.Warmed39 s.vm) {j : Int32} {x : Int32} (pc' : Nat) (i : Nat) (eT : T.heap = h) (A : IArr Z h a .char n f) (hj : j.toInt = (i : Int)) (hi : i < n) (hd : decode c.code pc = .ok (.castore, 1)) (hp : pc + 1 = pc')
    (K : ∀ T' h', Stand p l e R s m args below meth c T' (locs ++ [⟨a, i⟩]) cells slots → T'.heap = h' → Wr h h' a i (.int (nar .char x)) → IArr Z h' a .char n (upd f i (.int (nar .char x))) → WpV p e s0 below Q kc ks (T'.setTop (mkF m pc' Ls st))) : WpV p e s0 below Q kc ks (T.setTop (mkF m pc Ls (.int x :: .int j :: .ref a :: st))) := by
  subst hp
  obtain ⟨cl, A0, S, H⟩ := A
  obtain ⟨T', h', X', e', W, stp⟩ := stC X hx hZ eT A0 (IArr.inb S hj hi) (g := mkF m pc Ls (.int x :: .int j :: .ref a :: st)) rfl rfl hd
  rw [(nat_of hj).2] at X' W
  exact WpV.step stp (K T' h' X' e' W (IArr.same ⟨cl, A0, S, H⟩ W))
theorem V.bastore (X : Stand p l e R s m args below meth c T locs cells slots) (hx : p.tables.exec = Jvm.exec) (hZ : Z.Warmed39 s.vm) {j : Int32} {x : Int32} (pc' : Nat) (i : Nat) (eT : T.heap = h) (A : IArr Z h a .byte n f) (hj : j.toInt = (i : Int)) (hi : i < n) (hd : decode c.code pc = .ok (.bastore, 1)) (hp : pc + 1 = pc')
    (K : ∀ T' h', Stand p l e R s m args below meth c T' (locs ++ [⟨a, i⟩]) cells slots → T'.heap = h' → Wr h h' a i (.int (nar .byte x)) → IArr Z h' a .byte n (upd f i (.int (nar .byte x))) → WpV p e s0 below Q kc ks (T'.setTop (mkF m pc' Ls st))) : WpV p e s0 below Q kc ks (T.setTop (mkF m pc Ls (.int x :: .int j :: .ref a :: st))) := by
  subst hp
  obtain ⟨cl, A0, S, H⟩ := A
  obtain ⟨T', h', X', e', W, stp⟩ := stB X hx hZ eT A0 (IArr.inb S hj hi) (g := mkF m pc Ls (.int x :: .int j :: .ref a :: st)) rfl rfl hd
  rw [(nat_of hj).2] at X' W
  exact WpV.step stp (K T' h' X' e' W (IArr.same ⟨cl, A0, S, H⟩ W))
theorem V.zastore (X : Stand p l e R s m args below meth c T locs cells slots) (hx : p.tables.exec = Jvm.exec) (hZ : Z.Warmed39 s.vm) {j : Int32} {x : Int32} (pc' : Nat) (i : Nat) (eT : T.heap = h) (A : IArr Z h a .boolean n f) (hj : j.toInt = (i : Int)) (hi : i < n) (hd : decode c.code pc = .ok (.bastore, 1)) (hp : pc + 1 = pc')
    (K : ∀ T' h', Stand p l e R s m args below meth c T' (locs ++ [⟨a, i⟩]) cells slots → T'.heap = h' → Wr h h' a i (.int (nar .boolean x)) → IArr Z h' a .boolean n (upd f i (.int (nar .boolean x))) → WpV p e s0 below Q kc ks (T'.setTop (mkF m pc' Ls st))) : WpV p e s0 below Q kc ks (T.setTop (mkF m pc Ls (.int x :: .int j :: .ref a :: st))) := by
  subst hp
  obtain ⟨cl, A0, S, H⟩ := A
  obtain ⟨T', h', X', e', W, stp⟩ := stZ X hx hZ eT A0 (IArr.inb S hj hi) (g := mkF m pc Ls (.int x :: .int j :: .ref a :: st)) rfl rfl hd
  rw [(nat_of hj).2] at X' W
  exact WpV.step stp (K T' h' X' e' W (IArr.same ⟨cl, A0, S, H⟩ W))
theorem V.getS (X : Stand p l e R s m args below meth c T locs cells slots) (hx : p.tables.exec = Jvm.exec) (hZ : Z.Warmed39 s.vm) {own R0 O nm d : String} {index : Nat} {v : Value} (pc' : Nat) (hown : s.vm.findClass own = some m.cls) (w : (Jvm.Cond.fieldLink own index R0 nm d).before a0 Z = true) (via : Via Z R0 O nm d) (eT : T.heap = h) (F : Sta Z h O nm d v) (hd : decode c.code pc = .ok (.getstatic index, 3)) (hp : pc + 3 = pc')
    (K : ∀ T', Stand p l e R s m args below meth c T' locs cells slots → T'.heap = h → WpV p e s0 below Q kc ks (T'.setTop (mkF m pc' Ls (v :: st)))) : WpV p e s0 below Q kc ks (T.setTop (mkF m pc Ls st)) := by
  subst hp
  obtain ⟨T', X', e', stp⟩ := Jvm.RoadKit.getS X hx hZ (host := "") hown w via eT F (g := mkF m pc Ls st) rfl hd
  exact WpV.step stp (K T' X' e')
theorem V.getF (X : Stand p l e R s m args below meth c T locs cells slots) (hx : p.tables.exec = Jvm.exec) (hZ : Z.Warmed39 s.vm) {own R0 O nm d : String} {index : Nat} {v : Value} (pc' : Nat) (hown : s.vm.findClass own = some m.cls) (w : (Jvm.Cond.fieldLink own index R0 nm d).before a0 Z = true) (via : Via Z R0 O nm d) (eT : T.heap = h) (F : Fld Z h a O nm d v) (hd : decode c.code pc = .ok (.getfield index, 3)) (hp : pc + 3 = pc')
    (K : ∀ T', Stand p l e R s m args below meth c T' locs cells slots → T'.heap = h → WpV p e s0 below Q kc ks (T'.setTop (mkF m pc' Ls (v :: st)))) : WpV p e s0 below Q kc ks (T.setTop (mkF m pc Ls (.ref a :: st))) := by
  subst hp
  obtain ⟨T', X', e', stp⟩ := Jvm.RoadKit.getF X hx hZ (host := "") hown (Or.inl w) via eT F (g := mkF m pc Ls (.ref a :: st)) rfl rfl hd
  exact WpV.step stp (K T' X' e')
theorem V.putF (X : Stand p l e R s m args below meth c T locs cells slots) (hx : p.tables.exec = Jvm.exec) (hZ : Z.Warmed39 s.vm) {own R0 O nm d C : String} {index kk : Nat} {v old : Value} {ty : FieldType} (pc' : Nat) (hown : s.vm.findClass own = some m.cls) (w : (Jvm.Cond.fieldLink own index R0 nm d).before a0 Z = true) (via : Via Z R0 O nm d) (eT : T.heap = h) (F : Fld Z h a O nm d old) (E : Exa Z h a C) (L : (Jvm.Cond.lays C O nm d).before a0 Z = true ∨ ((Jvm.Cond.laysFinal C O nm d).before a0 Z = true ∧ own = O ∧ meth.name = "<init>")) (wi : (Jvm.Cond.instantiable C kk).before a0 Z = true)
    (hty : parseFieldDescriptor d = some ty) (hn : narrow ty v = v) (hf : fits ty v = true) (hd : decode c.code pc = .ok (.putfield index, 3)) (hp : pc + 3 = pc')
    (K : ∀ T' h', Stand p l e R s m args below meth c T' (locs ++ [⟨a, Jvm.RoadKit.slotOf Z O nm d⟩]) cells slots → T'.heap = h' → Wr h h' a (Jvm.RoadKit.slotOf Z O nm d) v → Fld Z h' a O nm d v → WpV p e s0 below Q kc ks (T'.setTop (mkF m pc' Ls st))) : WpV p e s0 below Q kc ks (T.setTop (mkF m pc Ls (v :: .ref a :: st))) := by
  subst hp
  obtain ⟨T', h', X', e', W, stp⟩ := Jvm.RoadKit.putF X hx hZ hown (host := "") (Or.inl w) via eT F E L wi hty hn hf (g := mkF m pc Ls (v :: .ref a :: st)) rfl rfl hd
  exact WpV.step stp (K T' h' X' e' W (F.same W))
theorem V.newO (X : Stand p l e R s m args below meth c T locs cells slots) (hx : p.tables.exec = Jvm.exec) (hZ : Z.Warmed39 s.vm) {own C : String} {index k : Nat} (pc' : Nat) (hown : s.vm.findClass own = some m.cls) (w : (Jvm.Cond.classLink own index C).before a0 Z = true) (wi : (Jvm.Cond.instantiable C k).before a0 Z = true) (wz : (Jvm.Cond.initialized C).before a0 Z = true) (eT : T.heap = h) (hd : decode c.code pc = .ok (.new index, 3)) (hc : cells + 1 ≤ R.cells) (hl : slots + k ≤ R.slots) (hp : pc + 3 = pc')
    (K : ∀ T' h' a, a = h.size → Stand p l e R s m args below meth c T' locs (cells + 1) (slots + k) → T'.heap = h' → Ext h h' → Exa Z h' a C → (∀ {O nm d : String} {ty : FieldType}, Laid Z a0 C O nm d → parseFieldDescriptor d = some ty → Fld Z h' a O nm d (defaultValue ty)) → WpV p e s0 below Q kc ks (T'.setTop (mkF m pc' Ls (.ref a :: st)))) : WpV p e s0 below Q kc ks (T.setTop (mkF m pc Ls st)) := by
  subst hp
  obtain ⟨T', h', X', e', E, A, D, -, stp⟩ := Jvm.RoadKit.newO X hx hZ hown w wi wz eT (g := mkF m pc Ls st) rfl hd hc hl
  exact WpV.step stp (K T' h' _ rfl X' e' E A D)
theorem V.initO (X : Stand p l e R s m args below meth c T locs cells slots) (hx : p.tables.exec = Jvm.exec) (hZ : Z.Warmed39 s.vm) {own : String} {idx : Nat} (pc' W : Nat) (hown : s.vm.findClass own = some m.cls) (w1 : (Jvm.Cond.methodLink own idx Lib.objectInit).before a0 Z = true) (w2 : (Jvm.Cond.instanceMethod Lib.objectInit).before a0 Z = true) (w3 : (Jvm.Cond.code Lib.objectInit ⟨#[0xb1]⟩ 1 none).before a0 Z = true) (eT : T.heap = h) (hsz : Ls.size = c.maxLocals) (hd : decode c.code pc = .ok (.invokespecial idx, 3)) (hf : 1 ≤ R.frames) (hW : (st.map fun v => v.category).sum = W) (hl : W + 12 ≤ R.locals) (hp : pc + 3 = pc')
    (K : ∀ T', Stand p l e R s m args below meth c T' locs cells slots → T'.heap = h → WpV p e s0 below Q kc ks (T'.setTop (mkF m pc' Ls st))) : WpV p e s0 below Q kc ks (T.setTop (mkF m pc Ls (.ref a :: st))) := by
  subst hp
  obtain ⟨T', X', e', stp⟩ := Jvm.RoadKit.initO X hx hZ hown w1 w2 w3 eT (g := mkF m pc Ls (.ref a :: st)) rfl hsz rfl hd hf (W := W) (by show 2 * 0 + _ ≤ _; omega) hl
  exact WpV.step stp (K T' X' e')
theorem V.callS (X : Stand p l e R s m args below meth c T locs cells slots) (hx : p.tables.exec = Jvm.exec) (hZ : Z.Warmed39 s.vm) {own : String} {index : Nat} {y : MethodName} {bytes : ByteArray} {maxL : Nat} {ret : Option FieldType} {rm : Room} {Qc : Option Value → Heap → List Loc → Prop} {ps : List FieldType} {r : Option FieldType} {stk : List Value} (pc' W : Nat) (argsL : List Value)
    (hown : s.vm.findClass own = some m.cls) (w1 : (Jvm.Cond.methodLink own index y).before a0 Z = true) (w2 : (Jvm.Cond.static y).before a0 Z = true) (w3 : (Jvm.Cond.initialized y.cls).before a0 Z = true) (w4 : (Jvm.Cond.code y bytes maxL ret).before a0 Z = true) (hy : y.cls ≠ "java/lang/invoke/MethodHandle" ∧ y.cls ≠ "java/lang/invoke/VarHandle")
    (hpd : parseMethodDescriptor y.desc = some ⟨ps, r⟩) (hlen : argsL.length = ps.length) (eT : T.heap = h) (hM : Con l Z y bytes maxL ret [] rm argsL.toArray h Qc) (hd : decode c.code pc = .ok (.invokestatic index, 3)) (hsz : Ls.size = c.maxLocals) (hstk : stk = argsL.reverse ++ rest) (hW : (rest.map fun v => v.category).sum = W)
    (hf : rm.frames + 1 ≤ R.frames) (hl : W + (maxL + 11) + rm.locals ≤ R.locals) (hc : cells + rm.cells ≤ R.cells) (hsl : slots + rm.slots ≤ R.slots) (hp : pc + 3 = pc')
    (K : ∀ v T' L, Stand p l e R s m args below meth c T' (locs ++ L) (cells + rm.cells) (slots + rm.slots) → Qc v T'.heap L → WpV p e s0 below Q kc ks (T'.setTop (mkF m pc' Ls (v.toList ++ rest)))) : WpV p e s0 below Q kc ks (T.setTop (mkF m pc Ls stk)) := by
  subst hp hstk
  obtain ⟨v, vm₁, ⟨T', L', k', n'⟩, -, X', ⟨Lc, hQ, l1, l2, l3⟩, stp⟩ := Jvm.LawKit.callS X hx (y := y) hown (mvT hZ w1) (mvT hZ w2) (mvT hZ w3) (mvT hZ w4) hy (backOf (W := W) hM hZ w4 w3 hf hl) (g := mkF m pc Ls (argsL.reverse ++ rest)) rfl hsz (argsL := argsL) (rest := rest) (lenOf hpd hlen) rfl (by show 2 * 0 + _ ≤ _; omega) hd (fun _ _ => ⟨rfl, eT, hc, hsl⟩)
  dsimp only [Pt.U, Pt.locs, Pt.cells, Pt.slots] at X' l1 l2 l3 stp hQ
  subst l1 l2 l3
  exact WpV.step stp (K v T' Lc X' hQ)
theorem V.callI (X : Stand p l e R s m args below meth c T locs cells slots) (hx : p.tables.exec = Jvm.exec) (hZ : Z.Warmed39 s.vm) {own : String} {index : Nat} {y : MethodName} {bytes : ByteArray} {maxL : Nat} {rm : Room} {Qc : Option Value → Heap → List Loc → Prop} {ps : List FieldType} {r : Option FieldType} {stk : List Value} (pc' W : Nat) (b : Addr) (argsL : List Value) (hy1 : y.name = "<init>")
    (hown : s.vm.findClass own = some m.cls) (w1 : (Jvm.Cond.methodLink own index y).before a0 Z = true) (w2 : (Jvm.Cond.instanceMethod y).before a0 Z = true) (w3 : (Jvm.Cond.initialized y.cls).before a0 Z = true) (w4 : (Jvm.Cond.code y bytes maxL none).before a0 Z = true) (hy : y.cls ≠ "java/lang/invoke/MethodHandle" ∧ y.cls ≠ "java/lang/invoke/VarHandle")
    (hpd : parseMethodDescriptor y.desc = some ⟨ps, r⟩) (hlen : argsL.length = ps.length) (eT : T.heap = h) (hM : Con l Z y bytes maxL none [] rm (.ref b :: argsL).toArray h Qc) (hd : decode c.code pc = .ok (.invokespecial index, 3)) (hsz : Ls.size = c.maxLocals) (hstk : stk = argsL.reverse ++ .ref b :: rest) (hW : (rest.map fun v => v.category).sum = W)
    (hf : rm.frames + 1 ≤ R.frames) (hl : W + (maxL + 11) + rm.locals ≤ R.locals) (hc : cells + rm.cells ≤ R.cells) (hsl : slots + rm.slots ≤ R.slots) (hp : pc + 3 = pc')
    (K : ∀ v T' L, Stand p l e R s m args below meth c T' (locs ++ L) (cells + rm.cells) (slots + rm.slots) → Qc v T'.heap L → WpV p e s0 below Q kc ks (T'.setTop (mkF m pc' Ls (v.toList ++ rest)))) : WpV p e s0 below Q kc ks (T.setTop (mkF m pc Ls stk)) := by
  subst hp hstk
  obtain ⟨v, vm₁, ⟨T', L', k', n'⟩, -, X', ⟨Lc, hQ, l1, l2, l3⟩, stp⟩ := X.specialBack hx (y := y) hy1 hown (mvT hZ w1) (mvT hZ w2) (mvT hZ w4) hy (backOf (W := W) hM hZ w4 w3 hf hl) (g := mkF m pc Ls (argsL.reverse ++ .ref b :: rest)) rfl hsz (Steps.refl _) (a := b) (argsL := argsL) (rest := rest) (lenOf hpd hlen) rfl (by show 2 * 0 + _ ≤ _; omega) hd (fun _ _ => ⟨rfl, eT, hc, hsl⟩)
  dsimp only [Pt.U, Pt.locs, Pt.cells, Pt.slots] at X' l1 l2 l3 stp hQ
  subst l1 l2 l3
  exact WpV.chain stp (K v T' Lc X' hQ)
theorem V.callV (X : Stand p l e R s m args below meth c T locs cells slots) (hx : p.tables.exec = Jvm.exec) (hZ : Z.Warmed39 s.vm) {own C : String} {index : Nat} {y : MethodName} {bytes : ByteArray} {maxL : Nat} {ret : Option FieldType} {rm : Room} {Qc : Option Value → Heap → List Loc → Prop} {ps : List FieldType} {r : Option FieldType} {stk : List Value} (pc' W : Nat) (b : Addr) (argsL : List Value)
    (hown : s.vm.findClass own = some m.cls) (w1 : (Jvm.Cond.methodLink own index y).before a0 Z = true) (w2 : (Jvm.Cond.declares y).before a0 Z = true) (w5 : (Jvm.Cond.selects C y y).before a0 Z = true) (w6 : (Jvm.Cond.instanceMethod y).before a0 Z = true) (w3 : (Jvm.Cond.initialized y.cls).before a0 Z = true) (w4 : (Jvm.Cond.code y bytes maxL ret).before a0 Z = true) (hy : y.cls ≠ "java/lang/invoke/MethodHandle" ∧ y.cls ≠ "java/lang/invoke/VarHandle")
    (hpd : parseMethodDescriptor y.desc = some ⟨ps, r⟩) (hlen : argsL.length = ps.length) (eT : T.heap = h) (E : Exa Z h b C) (hM : Con l Z y bytes maxL ret [] rm (.ref b :: argsL).toArray h Qc) (hd : decode c.code pc = .ok (.invokevirtual index, 3)) (hsz : Ls.size = c.maxLocals) (hstk : stk = argsL.reverse ++ .ref b :: rest) (hW : (rest.map fun v => v.category).sum = W)
    (hf : rm.frames + 1 ≤ R.frames) (hl : W + (maxL + 11) + rm.locals ≤ R.locals) (hc : cells + rm.cells ≤ R.cells) (hsl : slots + rm.slots ≤ R.slots) (hp : pc + 3 = pc')
    (K : ∀ v T' L, Stand p l e R s m args below meth c T' (locs ++ L) (cells + rm.cells) (slots + rm.slots) → Qc v T'.heap L → WpV p e s0 below Q kc ks (T'.setTop (mkF m pc' Ls (v.toList ++ rest)))) : WpV p e s0 below Q kc ks (T.setTop (mkF m pc Ls stk)) := by
  subst hp hstk
  obtain ⟨cq, kq, qa, qb, qc⟩ := isOf hZ eT E
  obtain ⟨v, vm₁, ⟨T', L', k', n'⟩, -, X', ⟨Lc, hQ, l1, l2, l3⟩, stp⟩ := X.virtualBack hx (y := y) (z := y) hown (mvT hZ w1) (mvT hZ w2) (notFace_of_selects (args := args) (mvT hZ w5)) (mvT hZ w5) (mvT hZ w6) hy (backOf (W := W) hM hZ w4 w3 hf hl) qa qc (g := mkF m pc Ls (argsL.reverse ++ .ref b :: rest)) rfl hsz (Steps.refl _) (argsL := argsL) (rest := rest) (lenOf hpd hlen) rfl (by show 2 * 0 + _ ≤ _; omega) hd (fun _ _ => ⟨rfl, eT, hc, hsl⟩)
  dsimp only [Pt.U, Pt.locs, Pt.cells, Pt.slots] at X' l1 l2 l3 stp hQ
  subst l1 l2 l3
  exact WpV.chain stp (K v T' Lc X' hQ)
theorem V.lswHit (X : Stand p l e R s m args below meth c T locs cells slots) (hx : p.tables.exec = Jvm.exec) {k : Int32} {dflt : Int} {pairs : Array (Int × Int)} {len : Nat} (pc' : Nat) (y off : Int) (hd : decode c.code pc = .ok (.lookupswitch dflt pairs, len)) (hso : (pairs.toList.zip (pairs.toList.drop 1)).all (fun (a, next) => a.1 < next.1) = true) (hf : pairs.find? (·.1 == k.toInt) = some (y, off)) (ho : 0 ≤ (pc : Int) + off) (hp : ((pc : Int) + off).toNat = pc') (K : WpV p e s0 below Q kc ks (T.setTop (mkF m pc' Ls st))) : WpV p e s0 below Q kc ks (T.setTop (mkF m pc Ls (.int k :: st))) := by
  subst hp; exact WpV.step (fun t q => X.lookupswitchHit hx (g := mkF m pc Ls (.int k :: st)) rfl rfl hd hso hf ho t q) K
theorem V.lswMiss (X : Stand p l e R s m args below meth c T locs cells slots) (hx : p.tables.exec = Jvm.exec) {k : Int32} {dflt : Int} {pairs : Array (Int × Int)} {len : Nat} (pc' : Nat) (hd : decode c.code pc = .ok (.lookupswitch dflt pairs, len)) (hso : (pairs.toList.zip (pairs.toList.drop 1)).all (fun (a, next) => a.1 < next.1) = true) (hf : pairs.find? (·.1 == k.toInt) = none) (ho : 0 ≤ (pc : Int) + dflt) (hp : ((pc : Int) + dflt).toNat = pc') (K : WpV p e s0 below Q kc ks (T.setTop (mkF m pc' Ls st))) : WpV p e s0 below Q kc ks (T.setTop (mkF m pc Ls (.int k :: st))) := by
  subst hp; exact WpV.step (fun t q => X.lookupswitchMiss hx (g := mkF m pc Ls (.int k :: st)) rfl rfl hd hso hf ho t q) K
theorem V.tswIn (X : Stand p l e R s m args below meth c T locs cells slots) (hx : p.tables.exec = Jvm.exec) {k : Int32} {dflt low high : Int} {offs : Array Int} {len : Nat} (pc' : Nat) (off : Int) (hd : decode c.code pc = .ok (.tableswitch dflt low high offs, len)) (hi : ¬ (k.toInt < low ∨ k.toInt > high)) (hf : offs[(k.toInt - low).toNat]? = some off) (ho : 0 ≤ (pc : Int) + off) (hp : ((pc : Int) + off).toNat = pc') (K : WpV p e s0 below Q kc ks (T.setTop (mkF m pc' Ls st))) : WpV p e s0 below Q kc ks (T.setTop (mkF m pc Ls (.int k :: st))) := by
  subst hp; exact WpV.step (fun t q => X.tableswitchIn hx (g := mkF m pc Ls (.int k :: st)) rfl rfl hd hi hf ho t q) K
theorem V.newR (X : Stand p l e R s m args below meth c T locs cells slots) (hx : p.tables.exec = Jvm.exec) (hZ : Z.Warmed39 s.vm) {own C : String} {index : Nat} {z : Int32} (pc' : Nat) (k cap : Nat) (hown : s.vm.findClass own = some m.cls) (w1 : (Jvm.Cond.classLink own index C).before a0 Z = true) (w2 : (Jvm.Cond.arrayOver (.object C)).before a0 Z = true) (eT : T.heap = h) (hd : decode c.code pc = .ok (.anewarray index, 3)) (hz : z.toInt = (k : Int)) (hcap : k ≤ cap) (hb : cap * 8 ≤ 536870912) (hc : cells + 1 ≤ R.cells) (hl : slots + cap ≤ R.slots) (hp : pc + 3 = pc')
    (K : ∀ T' h' a, a = h.size → Stand p l e R s m args below meth c T' locs (cells + 1) (slots + cap) → T'.heap = h' → Ext h h' → IArr Z h' a (.object C) k (fun _ => defaultValue (.object C)) → Takes Z h' a C → WpV p e s0 below Q kc ks (T'.setTop (mkF m pc' Ls (.ref a :: st)))) : WpV p e s0 below Q kc ks (T.setTop (mkF m pc Ls (.int z :: st))) := by
  subst hp
  obtain ⟨q1, q2⟩ := nat_of hz
  obtain ⟨T', h', cA, X', e', E, A, O, stp⟩ := Jvm.RoadKit.newR X hx hZ hown w1 w2 eT (g := mkF m pc Ls (.int z :: st)) rfl hd rfl q1 (cap := cap) (by omega) hb hc hl
  exact WpV.step stp (K T' h' _ rfl X' e' E (IArr.fresh A q2) ⟨_, _, A, O⟩)
theorem V.aastore (X : Stand p l e R s m args below meth c T locs cells slots) (hx : p.tables.exec = Jvm.exec) (hZ : Z.Warmed39 s.vm) {j : Int32} {v : Value} (pc' : Nat) (i : Nat) (eT : T.heap = h) (A : IArr Z h a ty n f) (hty : ty.isReference = true) (F : Sto Z h a v) (hj : j.toInt = (i : Int)) (hi : i < n) (hd : decode c.code pc = .ok (.aastore, 1)) (hp : pc + 1 = pc')
    (K : ∀ T' h', Stand p l e R s m args below meth c T' (locs ++ [⟨a, i⟩]) cells slots → T'.heap = h' → Wr h h' a i v → IArr Z h' a ty n (upd f i v) → WpV p e s0 below Q kc ks (T'.setTop (mkF m pc' Ls st))) : WpV p e s0 below Q kc ks (T.setTop (mkF m pc Ls (v :: .int j :: .ref a :: st))) := by
  subst hp
  obtain ⟨cl, A0, S, H⟩ := A
  obtain ⟨T', h', X', e', W, stp⟩ := stR X hx hZ eT A0 (IArr.inb S hj hi) hty F (g := mkF m pc Ls (v :: .int j :: .ref a :: st)) rfl rfl hd
  rw [(nat_of hj).2] at X' W
  exact WpV.step stp (K T' h' X' e' W (IArr.same ⟨cl, A0, S, H⟩ W))
theorem V.callU (X : Stand p l e R s m args below meth c T locs cells slots) (hx : p.tables.exec = Jvm.exec) (hZ : Z.Warmed39 s.vm) {own C owner : String} {index : Nat} {y z : MethodName} {bytes : ByteArray} {maxL : Nat} {ret : Option FieldType} {rm : Room} {Qc : Option Value → Heap → List Loc → Prop} {ps : List FieldType} {r : Option FieldType} {stk : List Value} (pc' W : Nat) (b : Addr) (argsL : List Value)
    (hown : s.vm.findClass own = some m.cls) (w1 : (Jvm.Cond.methodLink own index y).before a0 Z = true) (w7 : (Jvm.Cond.sameMethod y.cls owner y.name y.desc).before a0 Z = true) (w2 : (Jvm.Cond.declares ⟨owner, y.name, y.desc⟩).before a0 Z = true) (hy : owner ≠ "java/lang/invoke/MethodHandle" ∧ owner ≠ "java/lang/invoke/VarHandle") (w5 : (Jvm.Cond.selects C y z).before a0 Z = true) (w6 : (Jvm.Cond.instanceMethod z).before a0 Z = true) (w3 : (Jvm.Cond.initialized z.cls).before a0 Z = true) (w4 : (Jvm.Cond.code z bytes maxL ret).before a0 Z = true)
    (hpd : parseMethodDescriptor y.desc = some ⟨ps, r⟩) (hlen : argsL.length = ps.length) (eT : T.heap = h) (E : Exa Z h b C) (hM : Con l Z z bytes maxL ret [] rm (.ref b :: argsL).toArray h Qc) (hd : decode c.code pc = .ok (.invokevirtual index, 3)) (hsz : Ls.size = c.maxLocals) (hstk : stk = argsL.reverse ++ .ref b :: rest) (hW : (rest.map fun v => v.category).sum = W)
    (hf : rm.frames + 1 ≤ R.frames) (hl : W + (maxL + 11) + rm.locals ≤ R.locals) (hc : cells + rm.cells ≤ R.cells) (hsl : slots + rm.slots ≤ R.slots) (hp : pc + 3 = pc')
    (K : ∀ v T' L, Stand p l e R s m args below meth c T' (locs ++ L) (cells + rm.cells) (slots + rm.slots) → Qc v T'.heap L → WpV p e s0 below Q kc ks (T'.setTop (mkF m pc' Ls (v.toList ++ rest)))) : WpV p e s0 below Q kc ks (T.setTop (mkF m pc Ls stk)) := by
  subst hp hstk
  obtain ⟨cq, kq, qa, qb, qc⟩ := isOf hZ eT E
  obtain ⟨v, vm₁, ⟨T', L', k', n'⟩, -, X', ⟨Lc, hQ, l1, l2, l3⟩, stp⟩ := X.virtualBackUp hx (x := y) (y := z) (owner := owner) hown (mvT hZ w1) (mvT hZ w7) (mvT hZ w2) hy (mvT hZ w5) (mvT hZ w6) (backOf (W := W) hM hZ w4 w3 hf hl) qa qc (g := mkF m pc Ls (argsL.reverse ++ .ref b :: rest)) rfl hsz (Steps.refl _) (argsL := argsL) (rest := rest) (lenOf hpd hlen) rfl (by show 2 * 0 + _ ≤ _; omega) hd (fun _ _ => ⟨rfl, eT, hc, hsl⟩)
  dsimp only [Pt.U, Pt.locs, Pt.cells, Pt.slots] at X' l1 l2 l3 stp hQ
  subst l1 l2 l3
  exact WpV.chain stp (K v T' Lc X' hQ)
theorem V.callP (X : Stand p l e R s m args below meth c T locs cells slots) (hx : p.tables.exec = Jvm.exec) (hZ : Z.Warmed39 s.vm) {own : String} {index : Nat} {y : MethodName} {bytes : ByteArray} {maxL kk : Nat} {ret : Option FieldType} {rm : Room} {Qc : Option Value → Heap → List Loc → Prop} {ps : List FieldType} {r : Option FieldType} {stk : List Value} (pc' W : Nat) (b : Addr) (argsL : List Value)
    (hown : s.vm.findClass own = some m.cls) (w1 : (Jvm.Cond.methodLink own index y).before a0 Z = true) (w2 : (Jvm.Cond.instanceMethod y).before a0 Z = true) (w5 : (Jvm.Cond.privateMethod y).before a0 Z = true) (w6 : (Jvm.Cond.instantiable y.cls kk).before a0 Z = true) (w3 : (Jvm.Cond.initialized y.cls).before a0 Z = true) (w4 : (Jvm.Cond.code y bytes maxL ret).before a0 Z = true) (hy : y.cls ≠ "java/lang/invoke/MethodHandle" ∧ y.cls ≠ "java/lang/invoke/VarHandle")
    (hpd : parseMethodDescriptor y.desc = some ⟨ps, r⟩) (hlen : argsL.length = ps.length) (eT : T.heap = h) {C : String} (E : Exa Z h b C) (hM : Con l Z y bytes maxL ret [] rm (.ref b :: argsL).toArray h Qc) (hd : decode c.code pc = .ok (.invokevirtual index, 3)) (hsz : Ls.size = c.maxLocals) (hstk : stk = argsL.reverse ++ .ref b :: rest) (hW : (rest.map fun v => v.category).sum = W)
    (hf : rm.frames + 1 ≤ R.frames) (hl : W + (maxL + 11) + rm.locals ≤ R.locals) (hc : cells + rm.cells ≤ R.cells) (hsl : slots + rm.slots ≤ R.slots) (hp : pc + 3 = pc')
    (K : ∀ v T' L, Stand p l e R s m args below meth c T' (locs ++ L) (cells + rm.cells) (slots + rm.slots) → Qc v T'.heap L → WpV p e s0 below Q kc ks (T'.setTop (mkF m pc' Ls (v.toList ++ rest)))) : WpV p e s0 below Q kc ks (T.setTop (mkF m pc Ls stk)) := by
  subst hp hstk
  obtain ⟨cq, q, q'⟩ := E.cell
  have hpr := Cond.privateMethod_at (mvP hZ w5 (args := args))
  obtain ⟨c2, k2, i1, i2, i3, i4, -⟩ := Cond.instantiable_spec (mvT (args := args) hZ w6)
  have hsel := selects_self_of_private i1 i2 (Bool.or_eq_false_iff.mp i4).1 hpr (mvT (args := args) hZ w2) hy
  obtain ⟨v, vm₁, ⟨T', L', k', n'⟩, -, X', ⟨Lc, hQ, l1, l2, l3⟩, stp⟩ := X.privateBack hx (y := y) hown (mvT hZ w1) (mvT hZ w2) hsel hpr (mvT hZ w4) hy (backOf (W := W) hM hZ w4 w3 hf hl) (g := mkF m pc Ls (argsL.reverse ++ .ref b :: rest)) rfl hsz (Steps.refl _) (a := b) (by rw [eT]; exact q) q' (argsL := argsL) (rest := rest) (lenOf hpd hlen) rfl (by show 2 * 0 + _ ≤ _; omega) hd (fun _ _ => ⟨rfl, eT, hc, hsl⟩)
  dsimp only [Pt.U, Pt.locs, Pt.cells, Pt.slots] at X' l1 l2 l3 stp hQ
  subst l1 l2 l3
  exact WpV.chain stp (K v T' Lc X' hQ)
theorem V.acopy (X : Stand p l e R s m args below meth c T locs cells slots) (hx : p.tables.exec = Jvm.exec) (hZ : Z.Warmed39 s.vm) {own : String} {index : Nat} {sp dp nn : Int32} {n' : Nat} {g : Nat → Value} {n0 : Nat} (pc' W i j k : Nat) (hown : s.vm.findClass own = some m.cls) (w1 : (Jvm.Cond.methodLink own index Jvm.Stand.acN).before a0 Z = true) (w2 : (Jvm.Cond.native Jvm.Stand.acN).before a0 Z = true) (w3 : (Jvm.Cond.static Jvm.Stand.acN).before a0 Z = true) (w4 : (Jvm.Cond.initialized "java/lang/System").before a0 Z = true) (eT : T.heap = h)
    (A : IArr Z h a ty n f) (B : IArr Z h b ty n' g) (hty : refKind ty = false) (hfa : ∀ i, i < n → fits ty (f i) = true) (hfb : ∀ i, i < n' → fits ty (g i) = true) (hsp : sp.toInt = (i : Int)) (hdp : dp.toInt = (j : Int)) (hnn : nn.toInt = (k : Int)) (h4 : i + k ≤ n) (h5 : j + k ≤ n') (hn : n < 2147483648) (hn' : n' < 2147483648) (N : Fr n0 locs) (ge : n0 ≤ b)
    (hsz : Ls.size = c.maxLocals) (hd : decode c.code pc = .ok (.invokestatic index, 3)) (hf : 1 ≤ R.frames) (hW : (st.map fun v => v.category).sum = W) (hlo : W + (nativeFrameWords "java/lang/System" "arraycopy" 5 + 11) ≤ R.locals) (hp : pc + 3 = pc')
    (K : ∀ T' h' L, Stand p l e R s m args below meth c T' L cells slots → T'.heap = h' → Fr n0 L → Keep h h' [b] → IArr Z h' b ty n' (fun q => if j ≤ q ∧ q < j + k then f (i + (q - j)) else g q) → WpV p e s0 below Q kc ks (T'.setTop (mkF m pc' Ls st))) : WpV p e s0 below Q kc ks (T.setTop (mkF m pc Ls (.int nn :: .int dp :: .ref b :: .int sp :: .ref a :: st))) := by
  subst hp
  obtain ⟨ka, VA⟩ := A.arv hn hfa
  obtain ⟨kb, VB⟩ := B.arv hn' hfb
  obtain ⟨s1, s2⟩ := nat_of hsp
  obtain ⟨d1, d2⟩ := nat_of hdp
  obtain ⟨m1, m2⟩ := nat_of hnn
  obtain ⟨-, z2⟩ := nat_of (own_ofNat hn)
  obtain ⟨-, z2'⟩ := nat_of (own_ofNat hn')
  obtain ⟨T', h', L, X', e', N', Kp, V', stp⟩ := cpA X hx hZ hown w1 w2 w3 w4 eT VA VB (Or.inl ⟨rfl, hty⟩) s1 d1 m1 (by rw [s2, m2, z2]; exact h4) (by rw [d2, m2, z2']; exact h5) rfl (by rw [d2, m2]; simpa using h5) N ge (g := mkF m pc Ls (.int nn :: .int dp :: .ref b :: .int sp :: .ref a :: st)) rfl hsz rfl hd hf (W := W) (by show 2 * 0 + _ ≤ _; omega) hlo
  refine WpV.step stp (K T' h' L X' e' N' Kp ?_)
  obtain ⟨c', A', -, S', -, H', -⟩ := V'
  refine ⟨c', A', by rw [S', z2'], fun q hq => ?_⟩
  rw [H' q (by rw [S', z2']; exact hq), d2, m2, s2, own_splice (by simp) (by simpa using h5)]
  dsimp only
  by_cases hh : j ≤ q ∧ q < j + k
  · rw [if_pos hh, if_pos hh, own_getD (by omega), own_getD (by omega)]
  · rw [if_neg hh, if_neg hh, own_getD hq]
theorem V.newarrE (X : Stand p l e R s m args below meth c T locs cells slots) (hx : p.tables.exec = Jvm.exec) (hZ : Z.Warmed39 s.vm) {aty : ArrayType} {z : Int32} (pc' : Nat) (k cap : Nat) (ad : String) (w : (Jvm.Cond.arrayClass (newarray.typeOf aty)).before a0 Z = true) (eT : T.heap = h) (hd : decode c.code pc = .ok (.newarray aty, 2)) (had : "[" ++ (newarray.typeOf aty).toString = ad) (hz : z.toInt = (k : Int)) (hcap : k ≤ cap) (hb : cap * 8 ≤ 536870912) (hc : cells + 1 ≤ R.cells) (hl : slots + cap ≤ R.slots) (hp : pc + 2 = pc')
    (K : ∀ T' h' a, a = h.size → Stand p l e R s m args below meth c T' locs (cells + 1) (slots + cap) → T'.heap = h' → Ext h h' → IArr Z h' a (newarray.typeOf aty) k (fun _ => defaultValue (newarray.typeOf aty)) → Exa Z h' a ad → WpV p e s0 below Q kc ks (T'.setTop (mkF m pc' Ls (.ref a :: st)))) : WpV p e s0 below Q kc ks (T.setTop (mkF m pc Ls (.int z :: st))) := by
  subst hp
  obtain ⟨q1, q2⟩ := nat_of hz
  obtain ⟨T', h', cA, X', e', E, A, EA, stp⟩ := newPE X hx hZ w eT (g := mkF m pc Ls (.int z :: st)) rfl hd rfl q1 (cap := cap) (by omega) hb hc hl had
  exact WpV.step stp (K T' h' _ rfl X' e' E (IArr.fresh A q2) EA)
theorem V.newRA (X : Stand p l e R s m args below meth c T locs cells slots) (hx : p.tables.exec = Jvm.exec) (hZ : Z.Warmed39 s.vm) {own : String} {ty : FieldType} {index : Nat} {z : Int32} (pc' : Nat) (k cap : Nat) (C : String) (hown : s.vm.findClass own = some m.cls) (hC : (FieldType.array ty).toString = C) (w1 : (Jvm.Cond.classLink own index C).before a0 Z = true) (w2 : (Jvm.Cond.arrayOver (.array ty)).before a0 Z = true) (eT : T.heap = h) (hd : decode c.code pc = .ok (.anewarray index, 3)) (hz : z.toInt = (k : Int)) (hcap : k ≤ cap) (hb : cap * 8 ≤ 536870912) (hc : cells + 1 ≤ R.cells) (hl : slots + cap ≤ R.slots) (hp : pc + 3 = pc')
    (K : ∀ T' h' a, a = h.size → Stand p l e R s m args below meth c T' locs (cells + 1) (slots + cap) → T'.heap = h' → Ext h h' → IArr Z h' a (.array ty) k (fun _ => defaultValue (.array ty)) → TakesA Z h' a C → WpV p e s0 below Q kc ks (T'.setTop (mkF m pc' Ls (.ref a :: st)))) : WpV p e s0 below Q kc ks (T.setTop (mkF m pc Ls (.int z :: st))) := by
  subst hp
  obtain ⟨q1, q2⟩ := nat_of hz
  obtain ⟨T', h', cA, X', e', E, A, -, O, stp⟩ := Jvm.RoadKit.newRA X hx hZ hown hC w1 w2 eT (g := mkF m pc Ls (.int z :: st)) rfl hd rfl q1 (cap := cap) (by omega) hb hc hl rfl
  exact WpV.step stp (K T' h' _ rfl X' e' E (IArr.fresh A q2) ⟨_, _, _, A, O⟩)
theorem WpV.done {vm0 : Vm} {k0 : Nat} (X : Stand p l e R (s0.setVm vm0) m args below meth c T locs cells slots) (hlk : meth.locks = false) (hS : s0.Since vm0 k0) (hk : k0 ≤ T.heap.size) {v : Option Value} (hv : meth.sig.returnType = none → v = none)
    (stp : ∀ fs, (∀ (f : JFrame) (acts : List Action), f.method = m → f.locked = none → f.entered = [] → (doReturn e (T.setTop f) acts v).1 = T.setFrames fs) → Steps p.tables e below (T.setTop (mkF m pc Ls st)) (T.setFrames fs))
    (hQ : Q v T.heap locs) (hc : cells ≤ kc) (hs : slots ≤ ks) : WpV p e s0 below Q kc ks (T.setTop (mkF m pc Ls st)) := by
  obtain ⟨fs, hr, hrun, hended, hE⟩ := X.leaveW hS hk (v := v) hv hlk
  obtain ⟨e1, e2, e3, e4⟩ := hE
  exact ⟨_, _, stp fs hr, hrun, hended, v, locs, rfl, hQ, e1, e2, e3, e4.mono hc hs⟩
theorem V.vret {vm0 : Vm} {k0 : Nat} (X : Stand p l e R (s0.setVm vm0) m args below meth c T locs cells slots) (hx : p.tables.exec = Jvm.exec) (hlk : meth.locks = false) (hS : s0.Since vm0 k0) (hk : k0 ≤ T.heap.size) (hret : meth.sig.returnType = none) (hd : decode c.code pc = .ok (.return_, 1)) (hc : cells ≤ kc) (hs : slots ≤ ks) (hQ : Q none T.heap locs) : WpV p e s0 below Q kc ks (T.setTop (mkF m pc Ls [])) :=
  WpV.done X hlk hS hk (fun _ => rfl) (fun fs hr => X.returnOut hx hret hd hr) hQ hc hs
theorem V.nret {vm0 : Vm} {k0 : Nat} (X : Stand p l e R (s0.setVm vm0) m args below meth c T locs cells slots) (hx : p.tables.exec = Jvm.exec) (hlk : meth.locks = false) (hS : s0.Since vm0 k0) (hk : k0 ≤ T.heap.size) {t : FieldType} (hret : meth.sig.returnType = some t) (ht : t = .boolean ∨ t = .byte ∨ t = .char ∨ t = .short) (hd : decode c.code pc = .ok (.ireturn, 1)) {z : Int32} (hc : cells ≤ kc) (hs : slots ≤ ks) (hQ : Q (some (.int (nar t z))) T.heap locs) : WpV p e s0 below Q kc ks (T.setTop (mkF m pc Ls (.int z :: rest))) :=
  WpV.done X hlk hS hk (fun h => by rw [hret] at h; cases h) (fun fs hr => retN X hx hret ht hd hr) hQ hc hs
/-- ldc of a String constant -/
theorem V.ldcS {vm0 : Vm} {k0 : Nat} (X : Stand p l e R (s0.setVm vm0) m args below meth c T locs cells slots) (hx : p.tables.exec = Jvm.exec) (hZ : Z.Warmed39 (s0.setVm vm0).vm) {own text : String} {index : Nat} (pc' n : Nat) (hown : (s0.setVm vm0).vm.findClass own = some m.cls) (w : (Jvm.Cond.stringLink own index text).before a0 Z = true) (wS : ∀ a ∈ Bundle.stringAtoms, a.before a0 Z = true) (eT : T.heap = h) (hS : s0.Since vm0 k0) (hk : k0 ≤ h.size) (hd : decode c.code pc = .ok (.ldc index, 2)) (hn : 4 * text.toList.length ≤ n) (hbig : n ≤ 536870912) (hc : cells + 2 ≤ R.cells) (hl : slots + (n + 4) ≤ R.slots) (hp : pc + 2 = pc')
    (K : ∀ (a : Addr) (T' : State) (h' : Heap) (k1 : Nat), Stand p l e R (s0.setVm T'.vm) m args below meth c T' locs (cells + 2) (slots + (n + 4)) → T'.heap = h' → Ext h h' → s0.Since T'.vm k1 → k1 ≤ h'.size → Z.Warmed39 (s0.setVm T'.vm).vm → (s0.setVm T'.vm).vm.findClass own = some m.cls → WpV p e s0 below Q kc ks (T'.setTop (mkF m pc' Ls (.ref a :: st)))) : WpV p e s0 below Q kc ks (T.setTop (mkF m pc Ls st)) := by
  subst hp
  obtain ⟨a, T', h', k1, X', e', E, S', hk', hZ', hown', stp⟩ := Jvm.RoadKit.ldcS X hx hZ hown w wS eT hS hk (g := mkF m pc Ls st) rfl hd hn hbig hc hl
  exact WpV.step stp (K a T' h' k1 X' e' E S' hk' hZ' hown')
/-- a constructor that may intern -/
theorem V.callIS {vm0 : Vm} {k0 : Nat} (X : Stand p l e R (s0.setVm vm0) m args below meth c T locs cells slots) (hx : p.tables.exec = Jvm.exec) (hZ : Z.Warmed39 (s0.setVm vm0).vm) {own : String} {index : Nat} {y : MethodName} {bytes : ByteArray} {maxL : Nat} {rm : Room} {Qc : Option Value → Heap → List Loc → Prop} {ps : List FieldType} {r : Option FieldType} {stk : List Value} (pc' W : Nat) (b : Addr) (argsL : List Value) (hy1 : y.name = "<init>")
    (hown : (s0.setVm vm0).vm.findClass own = some m.cls) (hS : s0.Since vm0 k0) (hk : k0 ≤ h.size) (w1 : (Jvm.Cond.methodLink own index y).before a0 Z = true) (w2 : (Jvm.Cond.instanceMethod y).before a0 Z = true) (w3 : (Jvm.Cond.initialized y.cls).before a0 Z = true) (w4 : (Jvm.Cond.code y bytes maxL none).before a0 Z = true) (hy : y.cls ≠ "java/lang/invoke/MethodHandle" ∧ y.cls ≠ "java/lang/invoke/VarHandle")
    (hpd : parseMethodDescriptor y.desc = some ⟨ps, r⟩) (hlen : argsL.length = ps.length) (eT : T.heap = h) (hM : ConV l Z y bytes maxL none [] rm (.ref b :: argsL).toArray h Qc) (hd : decode c.code pc = .ok (.invokespecial index, 3)) (hsz : Ls.size = c.maxLocals) (hstk : stk = argsL.reverse ++ .ref b :: rest) (hW : (rest.map fun v => v.category).sum = W)
    (hf : rm.frames + 1 ≤ R.frames) (hl : W + (maxL + 11) + rm.locals ≤ R.locals) (hc : cells + rm.cells ≤ R.cells) (hsl : slots + rm.slots ≤ R.slots) (hp : pc + 3 = pc')
    (K : ∀ v T' L k1, Stand p l e R (s0.setVm T'.vm) m args below meth c T' (locs ++ L) (cells + rm.cells) (slots + rm.slots) → s0.Since T'.vm k1 → k1 ≤ T'.heap.size → Z.Warmed39 (s0.setVm T'.vm).vm → (s0.setVm T'.vm).vm.findClass own = some m.cls → Qc v T'.heap L → WpV p e s0 below Q kc ks (T'.setTop (mkF m pc' Ls (v.toList ++ rest)))) : WpV p e s0 below Q kc ks (T.setTop (mkF m pc Ls stk)) := by
  subst hp hstk
  obtain ⟨v, vm₁, ⟨T', L', k', n'⟩, -, X', S', hgr, ⟨Lc, hQ, l1, l2, l3⟩, stp⟩ := X.specialBackS hx (y := y) hy1 hown (mvT hZ w1) (mvT hZ w2) (mvT hZ w4) hy (backOfS (W := W) hM hZ w4 w3 hf hl) (g := mkF m pc Ls (argsL.reverse ++ .ref b :: rest)) rfl hsz (Steps.refl _) (a := b) (argsL := argsL) (rest := rest) (lenOf hpd hlen) rfl (by show 2 * 0 + _ ≤ _; omega) hd (fun _ _ => ⟨rfl, eT, hc, hsl⟩)
  dsimp only [Pt.U, Pt.locs, Pt.cells, Pt.slots] at X' l1 l2 l3 stp hQ S' hgr
  subst l1 l2 l3
  exact WpV.chain stp (K v T' Lc _ X' (hS.trans S' (by rw [eT] at hgr; omega)) (Nat.le_refl _) (State.Warmed39.trans (t := s0.setVm vm0) hZ S'.1) (by rw [show (s0.setVm T'.vm).vm = T'.vm from rfl, S'.1.alike.findClass]; exact hown) hQ)
end V
end Jvm.OwnW
namespace Jvm.Pilot.@@N@@
open Jvm Jvm.ClassFile Sem Op Lib Jvm.Free Jvm.Stand Jvm.LawKit Jvm.RoadKit Jvm.OwnW Bundle Jvm.Pilot.@@N@@.Jvm.D
theorem pd_0 : parseMethodDescriptor "([CI[BII)I" = some ⟨[(.array .char), .int, (.array .byte), .int, .int], some .int⟩ := by decide +kernel
theorem pd_1 : parseMethodDescriptor "([CII)[B" = some ⟨[(.array .char), .int, .int], some (.array .byte)⟩ := by decide +kernel
theorem pd_2 : parseMethodDescriptor "([BI)B" = some ⟨[(.array .byte), .int], some .byte⟩ := by decide +kernel
theorem pd_3 : parseMethodDescriptor "([CIILjava/lang/Void;)V" = some ⟨[(.array .char), .int, .int, (.object "java/lang/Void")], none⟩ := by decide +kernel
theorem pd_4 : parseMethodDescriptor "()B" = some ⟨[], some .byte⟩ := by decide +kernel
theorem pd_5 : parseMethodDescriptor "(IILjava/util/function/BiFunction;)I" = some ⟨[.int, .int, (.object "java/util/function/BiFunction")], some .int⟩ := by decide +kernel
theorem pd_6 : parseMethodDescriptor "(II)V" = some ⟨[.int, .int], none⟩ := by decide +kernel
theorem pd_7 : parseMethodDescriptor "()Z" = some ⟨[], some .boolean⟩ := by decide +kernel
theorem pd_8 : parseMethodDescriptor "([BI)C" = some ⟨[(.array .byte), .int], some .char⟩ := by decide +kernel
theorem pd_9 : parseMethodDescriptor "()I" = some ⟨[], some .int⟩ := by decide +kernel
theorem pd_10 : parseMethodDescriptor "(I)C" = some ⟨[.int], some .char⟩ := by decide +kernel
theorem pd_11 : parseMethodDescriptor "(C)Z" = some ⟨[.char], some .boolean⟩ := by decide +kernel
theorem pd_12 : parseMethodDescriptor "(Ljava/lang/Object;Ljava/lang/String;)Ljava/lang/Object;" = some ⟨[(.object "java/lang/Object"), (.object "java/lang/String")], some (.object "java/lang/Object")⟩ := by decide +kernel
theorem pd_13 : parseMethodDescriptor "(Ljava/lang/String;)Z" = some ⟨[(.object "java/lang/String")], some .boolean⟩ := by decide +kernel
theorem pd_14 : parseMethodDescriptor "()V" = some ⟨[], none⟩ := by decide +kernel
theorem pd_15 : parseMethodDescriptor "(Ljava/lang/String;Ljava/lang/String;)V" = some ⟨[(.object "java/lang/String"), (.object "java/lang/String")], none⟩ := by decide +kernel
theorem pd_16 : parseMethodDescriptor "([C)V" = some ⟨[(.array .char)], none⟩ := by decide +kernel
theorem pd_17 : parseMethodDescriptor "(Ljava/lang/String;Ljava/lang/String;I)V" = some ⟨[(.object "java/lang/String"), (.object "java/lang/String"), .int], none⟩ := by decide +kernel
theorem own_ch : ∀ c : Nat, c < 128 → (Int32.ofNat c).toUInt32.toUInt16.toUInt32.toInt32 = Int32.ofNat c ∧ (Int32.ofNat c).toInt8.toInt32 = Int32.ofNat c ∧ nar .char (Int32.ofNat c) = Int32.ofNat c ∧ nar .byte (Int32.ofNat c) = Int32.ofNat c ∧ (Int32.ofNat c &&& 255) = Int32.ofNat c ∧ ¬ (255 : Int32) < Int32.ofNat c := by decide +kernel
theorem own_bar : ∀ c : Nat, c < 127 → 33 ≤ c → ¬ Int32.ofNat c < 33 ∧ ¬ (126 : Int32) < Int32.ofNat c := by decide +kernel
def two (a b : Nat) : Nat → Value := fun j => if j = 0 then .int (Int32.ofNat a) else .int (Int32.ofNat b)
def SV (Z : State) (h : Heap) (s vb : Addr) (a b : Nat) : Prop := Exa Z h s "java/lang/String" ∧ Fld Z h s "java/lang/String" "coder" "B" (.int 0) ∧ Fld Z h s "java/lang/String" "value" "[B" (.ref vb) ∧ IArr Z h vb .byte 2 (two a b)
theorem SV.ext {Z : State} {h h' : Heap} {s vb : Addr} {a b : Nat} (I : SV Z h s vb a b) (E : Ext h h') : SV Z h' s vb a b := ⟨I.1.ext E, I.2.1.ext E, I.2.2.1.ext E, I.2.2.2.ext E⟩
theorem SV.keep {Z : State} {h h' : Heap} {s vb : Addr} {a b : Nat} {ws : List Addr} (I : SV Z h s vb a b) (K : Keep h h' ws) (q1 : s ∉ ws) (q2 : vb ∉ ws) : SV Z h' s vb a b := ⟨I.1.keep K, I.2.1.keep K q1, I.2.2.1.keep K q1, I.2.2.2.keep K q2⟩
theorem own_sta0 {Z : State} {h h' : Heap} {C n d : String} {w : Value} (F : Sta Z h C n d w) (K : Keep h h' []) : Sta Z h' C n d w := by
  obtain ⟨cf, i, k, f, st, cell, h1, h2, h3, h4, h5, h6, r⟩ := F
  exact ⟨cf, i, k, f, st, cell, h1, h2, h3, h4, K.2.1 _ _ h5 nin0, h6, r⟩
theorem own_wS {Z : State} {a0 : Array Value} (hw : ∀ d ∈ tables_1, d.before a0 Z = true) : ∀ a ∈ Bundle.stringAtoms, a.before a0 Z = true := fun a ha => by
  simp only [Bundle.stringAtoms, List.mem_cons, List.not_mem_nil, or_false] at ha
  rcases ha with rfl | rfl | rfl | rfl | rfl | rfl | rfl
  · exact (hw _ (List.mem_of_getElem? (i := 11) rfl))
  · exact (hw _ (List.mem_of_getElem? (i := 10) rfl))
  · exact (hw _ (List.mem_of_getElem? (i := 27) rfl))
  · exact (hw _ (List.mem_of_getElem? (i := 37) rfl))
  · exact (hw _ (List.mem_of_getElem? (i := 35) rfl))
  · exact (hw _ (List.mem_of_getElem? (i := 48) rfl))
  · exact (hw _ (List.mem_of_getElem? (i := 49) rfl))
theorem d1_0 : decode method_2_code 0 = .ok (.bipush 33, 2) := by decide +kernel
theorem d1_2 : decode method_2_code 2 = .ok (.iload_n 0, 1) := by decide +kernel
theorem d1_3 : decode method_2_code 3 = .ok (.ldc 7, 2) := by decide +kernel
theorem d1_5 : decode method_2_code 5 = .ok (.iand, 1) := by decide +kernel
theorem d1_6 : decode method_2_code 6 = .ok (.bipush 94, 2) := by decide +kernel
theorem d1_8 : decode method_2_code 8 = .ok (.irem, 1) := by decide +kernel
theorem d1_9 : decode method_2_code 9 = .ok (.iadd, 1) := by decide +kernel
theorem d1_10 : decode method_2_code 10 = .ok (.i2c, 1) := by decide +kernel
theorem d1_11 : decode method_2_code 11 = .ok (.ireturn, 1) := by decide +kernel
theorem pn_1 : plainName "com/example/fusionutils/fusionutils/JudgementIsRelevantPinLaw" = true := by first | (simp [plainName, overriddenIn]; done) | decide +kernel
theorem ef_rmV (m : MethodId) (p1 : Int32) : entryFrame m #[(.int p1)] 1 = mkF m 0 #[.val (.int p1)] [] := by first | (simp [entryFrame, mkF, argsToLocals, Value.category]; done) | rfl
set_option maxRecDepth 65536 in
set_option maxHeartbeats 40000000 in
theorem rmV (l : Launch) (Z : State) (a0 : Array Value) (hw : ∀ d ∈ tables_1, d.before a0 Z = true) (p1 : Int32) (h0 : Heap)  :
    Con l Z (⟨"com/example/fusionutils/fusionutils/JudgementIsRelevantPinLaw", "visible", "(I)C"⟩ : MethodName) method_2_code 1 (some .char) [] ({ frames := 0, cells := 0, slots := 0, locals := 0 } : Room) #[(.int p1)] h0 (fun v h L => ∃ c : Nat, 33 ≤ c ∧ c ≤ 126 ∧ v = some (.int (Int32.ofNat c)) ∧ h = h0 ∧ L = []) := by
  refine Con.of (plainFor_of_name pn_1) ?_
  intro p e s m below meth c s₁ hx hby hml hown hnm hret hlk hZ X0 e0
  refine Wp.enter (ef_rmV m p1) ?_
  obtain ⟨n, hn, en⟩ := own_and p1 2147483647 (by decide)
  have t94 : (94 : Int32).toInt = 94 := rfl
  obtain ⟨r, hr, er, -⟩ := own_rem (x := p1 &&& 2147483647) (y := 94) (by omega) (by decide)
  have t33 : (33 : Int32).toInt = 33 := rfl
  have es := own_ieq (n := 33 + r) (x := 33 + (p1 &&& 2147483647) % 94) (by rw [own_add (by rw [er, t33]; omega) (by rw [er, t33]; omega), er, t33]; omega)
  refine W.bipush X0 hx 2 (33 : Int32) (hb hby d1_0) rfl rfl ?_
  refine W.iloadN X0 hx 3 (hb hby d1_2) rfl rfl ?_
  refine W.ldcI X0 hx hZ 5 hown (hw _ (List.mem_of_getElem? (i := 5) rfl)) (hb hby d1_3) rfl ?_
  refine W.iand X0 hx 6 (hb hby d1_5) rfl ?_
  refine W.bipush X0 hx 8 (94 : Int32) (hb hby d1_6) rfl rfl ?_
  refine W.irem X0 hx 9 (hb hby d1_8) (by decide) rfl ?_
  refine W.iadd X0 hx 10 (hb hby d1_9) rfl ?_
  rw [es]
  refine W.i2c X0 hx 11 (hb hby d1_10) rfl ?_
  rw [(own_ch (33 + r) (by omega)).1]
  refine W.nret X0 hx hlk (t := .char) hret (by simp) (hb hby d1_11) (by decide) (by decide) ?_
  exact ⟨33 + r, by omega, by omega, (congrArg (fun z : Int32 => some (Value.int z)) (own_ch (33 + r) (by omega)).2.2.1), e0, rfl⟩
theorem d6_0 : decode jdk_52_method_21_code 0 = .ok (.iconst 0, 1) := by decide +kernel
theorem d6_1 : decode jdk_52_method_21_code 1 = .ok (.istore 5, 2) := by decide +kernel
theorem d6_3 : decode jdk_52_method_21_code 3 = .ok (.iload 5, 2) := by decide +kernel
theorem d6_5 : decode jdk_52_method_21_code 5 = .ok (.iload 4, 2) := by decide +kernel
theorem d6_7 : decode jdk_52_method_21_code 7 = .ok (.if_icmp .ge 37, 3) := by decide +kernel
theorem d6_10 : decode jdk_52_method_21_code 10 = .ok (.aload_n 0, 1) := by decide +kernel
theorem d6_11 : decode jdk_52_method_21_code 11 = .ok (.iload_n 1, 1) := by decide +kernel
theorem d6_12 : decode jdk_52_method_21_code 12 = .ok (.caload, 1) := by decide +kernel
theorem d6_13 : decode jdk_52_method_21_code 13 = .ok (.istore 6, 2) := by decide +kernel
theorem d6_15 : decode jdk_52_method_21_code 15 = .ok (.iload 6, 2) := by decide +kernel
theorem d6_17 : decode jdk_52_method_21_code 17 = .ok (.sipush 255, 3) := by decide +kernel
theorem d6_20 : decode jdk_52_method_21_code 20 = .ok (.if_icmp .le 6, 3) := by decide +kernel
theorem d6_23 : decode jdk_52_method_21_code 23 = .ok (.iload 5, 2) := by decide +kernel
theorem d6_25 : decode jdk_52_method_21_code 25 = .ok (.ireturn, 1) := by decide +kernel
theorem d6_26 : decode jdk_52_method_21_code 26 = .ok (.aload_n 2, 1) := by decide +kernel
theorem d6_27 : decode jdk_52_method_21_code 27 = .ok (.iload_n 3, 1) := by decide +kernel
theorem d6_28 : decode jdk_52_method_21_code 28 = .ok (.iload 6, 2) := by decide +kernel
theorem d6_30 : decode jdk_52_method_21_code 30 = .ok (.i2b, 1) := by decide +kernel
theorem d6_31 : decode jdk_52_method_21_code 31 = .ok (.bastore, 1) := by decide +kernel
theorem d6_32 : decode jdk_52_method_21_code 32 = .ok (.iinc 1 1, 3) := by decide +kernel
theorem d6_35 : decode jdk_52_method_21_code 35 = .ok (.iinc 3 1, 3) := by decide +kernel
theorem d6_38 : decode jdk_52_method_21_code 38 = .ok (.iinc 5 1, 3) := by decide +kernel
theorem d6_41 : decode jdk_52_method_21_code 41 = .ok (.goto (-38), 3) := by decide +kernel
theorem d6_44 : decode jdk_52_method_21_code 44 = .ok (.iload 4, 2) := by decide +kernel
theorem d6_46 : decode jdk_52_method_21_code 46 = .ok (.ireturn, 1) := by decide +kernel
theorem ef_rmC5 (m : MethodId) (ca : Addr) (ba : Addr) : entryFrame m #[(.ref ca), (.int (0 : Int32)), (.ref ba), (.int (0 : Int32)), (.int (2 : Int32))] 7 = mkF m 0 #[.val (.ref ca), .val (.int (0 : Int32)), .val (.ref ba), .val (.int (0 : Int32)), .val (.int (2 : Int32)), .unset, .unset] [] := by first | (simp [entryFrame, mkF, argsToLocals, Value.category]; done) | rfl
set_option maxRecDepth 65536 in
set_option maxHeartbeats 40000000 in
theorem rmC5 (l : Launch) (Z : State) (a0 : Array Value) (hw : ∀ d ∈ tables_1, d.before a0 Z = true) (ca ba : Addr) (a b : Nat) (h0 : Heap) (n0 : Nat) (Z0 : n0 ≤ h0.size) (A : IArr Z h0 ca .char 2 (two a b)) (B : IArr Z h0 ba .byte 2 (fun _ => .int 0)) (ha : a ≤ 126) (hb' : b ≤ 126) (ne_ca_ba : ca ≠ ba) (ge_ba : n0 ≤ ba) :
    Con l Z (⟨"java/lang/StringUTF16", "compress", "([CI[BII)I"⟩ : MethodName) jdk_52_method_21_code 7 (some .int) [] ({ frames := 0, cells := 0, slots := 0, locals := 0 } : Room) #[(.ref ca), (.int (0 : Int32)), (.ref ba), (.int (0 : Int32)), (.int (2 : Int32))] h0 (fun v h L => v = some (.int 2) ∧ Fr n0 L ∧ Keep h0 h [ba] ∧ IArr Z h ba .byte 2 (two a b)) := by
  refine Con.of (by decide +kernel) ?_
  intro p e s m below meth c s₁ hx hby hml hown hnm hret hlk hZ X0 e0
  refine Wp.enter (ef_rmC5 m ca ba) ?_
  have KP : Keep h0 h0 [ba] := Keep.refl _ _
  have gx_ba : True := trivial
  refine W.iconst X0 hx 1 (0 : Int32) (hb hby d6_0) rfl rfl ?_
  refine W.istore X0 hx 3 #[.val (.ref ca), .val (.int (0 : Int32)), .val (.ref ba), .val (.int (0 : Int32)), .val (.int (2 : Int32)), .val (.int (0 : Int32)), .unset] (hb hby d6_1) rfl rfl ?_
  refine W.iload X0 hx 5 (hb hby d6_3) rfl rfl ?_
  refine W.iload X0 hx 7 (hb hby d6_5) rfl rfl ?_
  refine W.icmpGe X0 hx 44 10 (hb hby d6_7) (by decide) (by decide) rfl (fun q => ?_) (fun q => ?_)
  · exact absurd (by decide) q
  · skip
    refine W.aloadN X0 hx 11 (hb hby d6_10) rfl rfl rfl ?_
    refine W.iloadN X0 hx 12 (hb hby d6_11) rfl rfl ?_
    refine W.caload X0 hx hZ 13 0 (.int (Int32.ofNat a)) e0 A (by decide) (by decide) rfl (hb hby d6_12) rfl ?_
    refine W.istore X0 hx 15 #[.val (.ref ca), .val (.int (0 : Int32)), .val (.ref ba), .val (.int (0 : Int32)), .val (.int (2 : Int32)), .val (.int (0 : Int32)), .val (.int (Int32.ofNat a))] (hb hby d6_13) rfl rfl ?_
    refine W.iload X0 hx 17 (hb hby d6_15) rfl rfl ?_
    refine W.sipush X0 hx 20 (255 : Int32) (hb hby d6_17) rfl rfl ?_
    refine W.icmpLe X0 hx 26 23 (hb hby d6_20) (by decide) (by decide) rfl (fun q => ?_) (fun q => ?_)
    · skip
      refine W.aloadN X0 hx 27 (hb hby d6_26) rfl rfl rfl ?_
      refine W.iloadN X0 hx 28 (hb hby d6_27) rfl rfl ?_
      refine W.iload X0 hx 30 (hb hby d6_28) rfl rfl ?_
      refine W.i2b X0 hx 31 (hb hby d6_30) rfl ?_
      rw [(own_ch a (by omega)).2.1]
      refine W.bastore X0 hx hZ 32 0 e0 B (by decide) (by decide) (hb hby d6_31) rfl ?_
      intro T1 h1 X1 e1 W1 B
      have A := A.other W1 ne_ca_ba
      have z1 : n0 ≤ h1.size := by rw [W1.size]; exact Z0
      have KP := KP.wr W1 (by first | (refine Or.inl ?_; simp; done) | exact Or.inr gx_ba)
      refine W.iinc X1 hx 35 (1 : Int32) #[.val (.ref ca), .val (.int ((0 : Int32) + (1 : Int32))), .val (.ref ba), .val (.int (0 : Int32)), .val (.int (2 : Int32)), .val (.int (0 : Int32)), .val (.int (Int32.ofNat a))] (hb hby d6_32) rfl rfl rfl rfl ?_
      refine W.iinc X1 hx 38 (1 : Int32) #[.val (.ref ca), .val (.int ((0 : Int32) + (1 : Int32))), .val (.ref ba), .val (.int ((0 : Int32) + (1 : Int32))), .val (.int (2 : Int32)), .val (.int (0 : Int32)), .val (.int (Int32.ofNat a))] (hb hby d6_35) rfl rfl rfl rfl ?_
      refine W.iinc X1 hx 41 (1 : Int32) #[.val (.ref ca), .val (.int ((0 : Int32) + (1 : Int32))), .val (.ref ba), .val (.int ((0 : Int32) + (1 : Int32))), .val (.int (2 : Int32)), .val (.int ((0 : Int32) + (1 : Int32))), .val (.int (Int32.ofNat a))] (hb hby d6_38) rfl rfl rfl rfl ?_
      refine W.goto X1 hx 3 (hb hby d6_41) (by decide) (by decide) ?_
      refine W.iload X1 hx 5 (hb hby d6_3) rfl rfl ?_
      refine W.iload X1 hx 7 (hb hby d6_5) rfl rfl ?_
      refine W.icmpGe X1 hx 44 10 (hb hby d6_7) (by decide) (by decide) rfl (fun q => ?_) (fun q => ?_)
      · exact absurd (by decide) q
      · skip
        refine W.aloadN X1 hx 11 (hb hby d6_10) rfl rfl rfl ?_
        refine W.iloadN X1 hx 12 (hb hby d6_11) rfl rfl ?_
        refine W.caload X1 hx hZ 13 1 (.int (Int32.ofNat b)) e1 A (by decide) (by decide) rfl (hb hby d6_12) rfl ?_
        refine W.istore X1 hx 15 #[.val (.ref ca), .val (.int ((0 : Int32) + (1 : Int32))), .val (.ref ba), .val (.int ((0 : Int32) + (1 : Int32))), .val (.int (2 : Int32)), .val (.int ((0 : Int32) + (1 : Int32))), .val (.int (Int32.ofNat b))] (hb hby d6_13) rfl rfl ?_
        refine W.iload X1 hx 17 (hb hby d6_15) rfl rfl ?_
        refine W.sipush X1 hx 20 (255 : Int32) (hb hby d6_17) rfl rfl ?_
        refine W.icmpLe X1 hx 26 23 (hb hby d6_20) (by decide) (by decide) rfl (fun q => ?_) (fun q => ?_)
        · skip
          refine W.aloadN X1 hx 27 (hb hby d6_26) rfl rfl rfl ?_
          refine W.iloadN X1 hx 28 (hb hby d6_27) rfl rfl ?_
          refine W.iload X1 hx 30 (hb hby d6_28) rfl rfl ?_
          refine W.i2b X1 hx 31 (hb hby d6_30) rfl ?_
          rw [(own_ch b (by omega)).2.1]
          refine W.bastore X1 hx hZ 32 1 e1 B (by decide) (by decide) (hb hby d6_31) rfl ?_
          intro T2 h2 X2 e2 W2 B
          have A := A.other W2 ne_ca_ba
          have z2 : n0 ≤ h2.size := by rw [W2.size]; exact z1
          have KP := KP.wr W2 (by first | (refine Or.inl ?_; simp; done) | exact Or.inr gx_ba)
          refine W.iinc X2 hx 35 (1 : Int32) #[.val (.ref ca), .val (.int (((0 : Int32) + (1 : Int32)) + (1 : Int32))), .val (.ref ba), .val (.int ((0 : Int32) + (1 : Int32))), .val (.int (2 : Int32)), .val (.int ((0 : Int32) + (1 : Int32))), .val (.int (Int32.ofNat b))] (hb hby d6_32) rfl rfl rfl rfl ?_
          refine W.iinc X2 hx 38 (1 : Int32) #[.val (.ref ca), .val (.int (((0 : Int32) + (1 : Int32)) + (1 : Int32))), .val (.ref ba), .val (.int (((0 : Int32) + (1 : Int32)) + (1 : Int32))), .val (.int (2 : Int32)), .val (.int ((0 : Int32) + (1 : Int32))), .val (.int (Int32.ofNat b))] (hb hby d6_35) rfl rfl rfl rfl ?_
          refine W.iinc X2 hx 41 (1 : Int32) #[.val (.ref ca), .val (.int (((0 : Int32) + (1 : Int32)) + (1 : Int32))), .val (.ref ba), .val (.int (((0 : Int32) + (1 : Int32)) + (1 : Int32))), .val (.int (2 : Int32)), .val (.int (((0 : Int32) + (1 : Int32)) + (1 : Int32))), .val (.int (Int32.ofNat b))] (hb hby d6_38) rfl rfl rfl rfl ?_
          refine W.goto X2 hx 3 (hb hby d6_41) (by decide) (by decide) ?_
          refine W.iload X2 hx 5 (hb hby d6_3) rfl rfl ?_
          refine W.iload X2 hx 7 (hb hby d6_5) rfl rfl ?_
          refine W.icmpGe X2 hx 44 10 (hb hby d6_7) (by decide) (by decide) rfl (fun q => ?_) (fun q => ?_)
          · skip
            refine W.iload X2 hx 46 (hb hby d6_44) rfl rfl ?_
            refine W.iret X2 hx hlk hret (hb hby d6_46) (by decide) (by decide) ?_
            rw [e2]
            exact ⟨rfl, (Fr.app (Fr.app (Fr.nil _) (fr1 ge_ba)) (fr1 ge_ba)), KP, B.cong (fun j hj => by match j, hj with | 0, _ => exact congrArg Value.int (own_ch a (by omega)).2.2.2.1.symm | 1, _ => exact congrArg Value.int (own_ch b (by omega)).2.2.2.1.symm)⟩
          · exact absurd q (by decide)
        · exact absurd q (own_ch b (by omega)).2.2.2.2.2
    · exact absurd q (own_ch a (by omega)).2.2.2.2.2
theorem d5_0 : decode jdk_52_method_16_code 0 = .ok (.iload_n 2, 1) := by decide +kernel
theorem d5_1 : decode jdk_52_method_16_code 1 = .ok (.newarray .byte, 2) := by decide +kernel
theorem d5_3 : decode jdk_52_method_16_code 3 = .ok (.astore_n 3, 1) := by decide +kernel
theorem d5_4 : decode jdk_52_method_16_code 4 = .ok (.aload_n 0, 1) := by decide +kernel
theorem d5_5 : decode jdk_52_method_16_code 5 = .ok (.iload_n 1, 1) := by decide +kernel
theorem d5_6 : decode jdk_52_method_16_code 6 = .ok (.aload_n 3, 1) := by decide +kernel
theorem d5_7 : decode jdk_52_method_16_code 7 = .ok (.iconst 0, 1) := by decide +kernel
theorem d5_8 : decode jdk_52_method_16_code 8 = .ok (.iload_n 2, 1) := by decide +kernel
theorem d5_9 : decode jdk_52_method_16_code 9 = .ok (.invokestatic 115, 3) := by decide +kernel
theorem d5_12 : decode jdk_52_method_16_code 12 = .ok (.istore 4, 2) := by decide +kernel
theorem d5_14 : decode jdk_52_method_16_code 14 = .ok (.iload 4, 2) := by decide +kernel
theorem d5_16 : decode jdk_52_method_16_code 16 = .ok (.iload_n 2, 1) := by decide +kernel
theorem d5_17 : decode jdk_52_method_16_code 17 = .ok (.if_icmp .eq 40, 3) := by decide +kernel
theorem d5_20 : decode jdk_52_method_16_code 20 = .ok (.aload_n 0, 1) := by decide +kernel
theorem d5_21 : decode jdk_52_method_16_code 21 = .ok (.iload_n 1, 1) := by decide +kernel
theorem d5_22 : decode jdk_52_method_16_code 22 = .ok (.iload_n 2, 1) := by decide +kernel
theorem d5_23 : decode jdk_52_method_16_code 23 = .ok (.invokestatic 119, 3) := by decide +kernel
theorem d5_26 : decode jdk_52_method_16_code 26 = .ok (.astore 5, 2) := by decide +kernel
theorem d5_28 : decode jdk_52_method_16_code 28 = .ok (.aload 5, 2) := by decide +kernel
theorem d5_30 : decode jdk_52_method_16_code 30 = .ok (.iload 4, 2) := by decide +kernel
theorem d5_32 : decode jdk_52_method_16_code 32 = .ok (.invokestatic 71, 3) := by decide +kernel
theorem d5_35 : decode jdk_52_method_16_code 35 = .ok (.sipush 255, 3) := by decide +kernel
theorem d5_38 : decode jdk_52_method_16_code 38 = .ok (.if_icmp .gt 16, 3) := by decide +kernel
theorem d5_41 : decode jdk_52_method_16_code 41 = .ok (.aload 5, 2) := by decide +kernel
theorem d5_43 : decode jdk_52_method_16_code 43 = .ok (.iconst 0, 1) := by decide +kernel
theorem d5_44 : decode jdk_52_method_16_code 44 = .ok (.aload_n 3, 1) := by decide +kernel
theorem d5_45 : decode jdk_52_method_16_code 45 = .ok (.iconst 0, 1) := by decide +kernel
theorem d5_46 : decode jdk_52_method_16_code 46 = .ok (.iload_n 2, 1) := by decide +kernel
theorem d5_47 : decode jdk_52_method_16_code 47 = .ok (.invokestatic 123, 3) := by decide +kernel
theorem d5_50 : decode jdk_52_method_16_code 50 = .ok (.iload_n 2, 1) := by decide +kernel
theorem d5_51 : decode jdk_52_method_16_code 51 = .ok (.if_icmp .eq 6, 3) := by decide +kernel
theorem d5_54 : decode jdk_52_method_16_code 54 = .ok (.aload 5, 2) := by decide +kernel
theorem d5_56 : decode jdk_52_method_16_code 56 = .ok (.areturn, 1) := by decide +kernel
theorem d5_57 : decode jdk_52_method_16_code 57 = .ok (.aload_n 3, 1) := by decide +kernel
theorem d5_58 : decode jdk_52_method_16_code 58 = .ok (.areturn, 1) := by decide +kernel
theorem ef_rmC3 (m : MethodId) (ca : Addr) : entryFrame m #[(.ref ca), (.int (0 : Int32)), (.int (2 : Int32))] 6 = mkF m 0 #[.val (.ref ca), .val (.int (0 : Int32)), .val (.int (2 : Int32)), .unset, .unset, .unset] [] := by first | (simp [entryFrame, mkF, argsToLocals, Value.category]; done) | rfl
set_option maxRecDepth 65536 in
set_option maxHeartbeats 40000000 in
theorem rmC3 (l : Launch) (Z : State) (a0 : Array Value) (hw : ∀ d ∈ tables_1, d.before a0 Z = true) (ca : Addr) (a b : Nat) (h0 : Heap) (n0 : Nat) (Z0 : n0 ≤ h0.size) (A : IArr Z h0 ca .char 2 (two a b)) (ha : a ≤ 126) (hb' : b ≤ 126) :
    Con l Z (⟨"java/lang/StringUTF16", "compress", "([CII)[B"⟩ : MethodName) jdk_52_method_16_code 6 (some (.array .byte)) [] ({ frames := 1, cells := 1, slots := 2, locals := 18 } : Room) #[(.ref ca), (.int (0 : Int32)), (.int (2 : Int32))] h0 (fun v h L => ∃ ba : Addr, v = some (.ref ba) ∧ h0.size ≤ ba ∧ Fr n0 L ∧ Keep h0 h [] ∧ IArr Z h ba .byte 2 (two a b)) := by
  refine Con.of (by decide +kernel) ?_
  intro p e s m below meth c s₁ hx hby hml hown hnm hret hlk hZ X0 e0
  refine Wp.enter (ef_rmC3 m ca) ?_
  refine W.iloadN X0 hx 1 (hb hby d5_0) rfl rfl ?_
  refine W.newarr X0 hx hZ 3 2 2 (hw _ (List.mem_of_getElem? (i := 27) rfl)) e0 (hb hby d5_1) (by decide) (by decide) (by decide) (by decide) (by decide) rfl ?_
  intro T1 h1 ba q1 X1 e1 E1 B
  have ne_ca_ba : ca ≠ ba := fun q => by have := A.lt; rw [q, q1] at this; exact Nat.lt_irrefl _ this
  have ge_ba : n0 ≤ ba := by have := Z0; omega
  have A := A.ext E1
  have z1 : n0 ≤ h1.size := Nat.le_trans Z0 E1.1
  refine W.astoreN X1 hx 4 #[.val (.ref ca), .val (.int (0 : Int32)), .val (.int (2 : Int32)), .val (.ref ba), .unset, .unset] (hb hby d5_3) rfl rfl rfl ?_
  refine W.aloadN X1 hx 5 (hb hby d5_4) rfl rfl rfl ?_
  refine W.iloadN X1 hx 6 (hb hby d5_5) rfl rfl ?_
  refine W.aloadN X1 hx 7 (hb hby d5_6) rfl rfl rfl ?_
  refine W.iconst X1 hx 8 (0 : Int32) (hb hby d5_7) rfl rfl ?_
  refine W.iloadN X1 hx 9 (hb hby d5_8) rfl rfl ?_
  refine W.callS X1 hx hZ 12 0 [(.ref ca), (.int (0 : Int32)), (.ref ba), (.int (0 : Int32)), (.int (2 : Int32))] hown (hw _ (List.mem_of_getElem? (i := 28) rfl)) (hw _ (List.mem_of_getElem? (i := 29) rfl)) (hw _ (List.mem_of_getElem? (i := 25) rfl)) (hw _ (List.mem_of_getElem? (i := 30) rfl)) (by decide) pd_0 rfl e1 (rmC5 l Z a0 hw ca ba a b h1 n0 z1 A B ha hb' ne_ca_ba ge_ba) (hb hby d5_9) (by rw [hml]; rfl) rfl rfl (by decide) (by decide) (by decide) (by decide) rfl ?_
  rintro v2 T2 L2 X2 ⟨rfl, N2, K2, B⟩
  refine W.istore X2 hx 14 #[.val (.ref ca), .val (.int (0 : Int32)), .val (.int (2 : Int32)), .val (.ref ba), .val (.int (2 : Int32)), .unset] (hb hby d5_12) rfl rfl ?_
  refine W.iload X2 hx 16 (hb hby d5_14) rfl rfl ?_
  refine W.iloadN X2 hx 17 (hb hby d5_16) rfl rfl ?_
  refine W.icmpEq X2 hx 57 20 (hb hby d5_17) (by decide) (by decide) rfl (fun q => ?_) (fun q => ?_)
  · skip
    refine W.aloadN X2 hx 58 (hb hby d5_57) rfl rfl rfl ?_
    refine W.aret X2 hx hlk hret rfl rfl (hb hby d5_58) (by decide) (by decide) ?_
    exact ⟨ba, rfl, Nat.le_of_eq q1.symm, (Fr.app (Fr.nil _) N2), ((Keep.refl _ _).ext E1).trans K2 (allS (Or.inr (Nat.le_of_eq q1.symm)) all0), B⟩
  · exact absurd rfl q
theorem d7_0 : decode jdk_52_method_15_code 0 = .ok (.iload_n 1, 1) := by decide +kernel
theorem d7_1 : decode jdk_52_method_15_code 1 = .ok (.aload_n 0, 1) := by decide +kernel
theorem d7_2 : decode jdk_52_method_15_code 2 = .ok (.arraylength, 1) := by decide +kernel
theorem d7_3 : decode jdk_52_method_15_code 3 = .ok (.isub, 1) := by decide +kernel
theorem d7_4 : decode jdk_52_method_15_code 4 = .ok (.bipush 31, 2) := by decide +kernel
theorem d7_6 : decode jdk_52_method_15_code 6 = .ok (.iushr, 1) := by decide +kernel
theorem d7_7 : decode jdk_52_method_15_code 7 = .ok (.i2b, 1) := by decide +kernel
theorem d7_8 : decode jdk_52_method_15_code 8 = .ok (.ireturn, 1) := by decide +kernel
theorem ef_rmCL (m : MethodId) (ba : Addr) : entryFrame m #[(.ref ba), (.int (2 : Int32))] 2 = mkF m 0 #[.val (.ref ba), .val (.int (2 : Int32))] [] := by first | (simp [entryFrame, mkF, argsToLocals, Value.category]; done) | rfl
set_option maxRecDepth 65536 in
set_option maxHeartbeats 40000000 in
theorem rmCL (l : Launch) (Z : State) (a0 : Array Value) (hw : ∀ d ∈ tables_1, d.before a0 Z = true) (ba : Addr) (f : Nat → Value) (h0 : Heap) (B : IArr Z h0 ba .byte 2 f) :
    Con l Z (⟨"java/lang/StringUTF16", "coderFromArrayLen", "([BI)B"⟩ : MethodName) jdk_52_method_15_code 2 (some .byte) [] ({ frames := 0, cells := 0, slots := 0, locals := 0 } : Room) #[(.ref ba), (.int (2 : Int32))] h0 (fun v h L => v = some (.int 0) ∧ h = h0 ∧ L = []) := by
  refine Con.of (by decide +kernel) ?_
  intro p e s m below meth c s₁ hx hby hml hown hnm hret hlk hZ X0 e0
  refine Wp.enter (ef_rmCL m ba) ?_
  refine W.iloadN X0 hx 1 (hb hby d7_0) rfl rfl ?_
  refine W.aloadN X0 hx 2 (hb hby d7_1) rfl rfl rfl ?_
  refine W.arrlen X0 hx hZ 3 e0 B (2 : Int32) rfl (hb hby d7_2) rfl ?_
  refine W.isub X0 hx 4 (hb hby d7_3) rfl ?_
  refine W.bipush X0 hx 6 (31 : Int32) (hb hby d7_4) rfl rfl ?_
  refine W.iushr X0 hx 7 (hb hby d7_6) rfl ?_
  refine W.i2b X0 hx 8 (hb hby d7_7) rfl ?_
  refine W.nret X0 hx hlk (t := .byte) hret (by simp) (hb hby d7_8) (by decide) (by decide) ?_
  exact ⟨(congrArg (fun z : Int32 => some (Value.int z)) (by decide)), e0, rfl⟩
theorem d3_0 : decode jdk_42_method_149_code 0 = .ok (.aload_n 0, 1) := by decide +kernel
theorem d3_1 : decode jdk_42_method_149_code 1 = .ok (.invokespecial 1, 3) := by decide +kernel
theorem d3_4 : decode jdk_42_method_149_code 4 = .ok (.iload_n 3, 1) := by decide +kernel
theorem d3_5 : decode jdk_42_method_149_code 5 = .ok (.ifCond .ne 22, 3) := by decide +kernel
theorem d3_8 : decode jdk_42_method_149_code 8 = .ok (.aload_n 0, 1) := by decide +kernel
theorem d3_9 : decode jdk_42_method_149_code 9 = .ok (.ldc 7, 2) := by decide +kernel
theorem d3_11 : decode jdk_42_method_149_code 11 = .ok (.getfield 9, 3) := by decide +kernel
theorem d3_14 : decode jdk_42_method_149_code 14 = .ok (.putfield 9, 3) := by decide +kernel
theorem d3_17 : decode jdk_42_method_149_code 17 = .ok (.aload_n 0, 1) := by decide +kernel
theorem d3_18 : decode jdk_42_method_149_code 18 = .ok (.ldc 7, 2) := by decide +kernel
theorem d3_20 : decode jdk_42_method_149_code 20 = .ok (.getfield 15, 3) := by decide +kernel
theorem d3_23 : decode jdk_42_method_149_code 23 = .ok (.putfield 15, 3) := by decide +kernel
theorem d3_26 : decode jdk_42_method_149_code 26 = .ok (.return_, 1) := by decide +kernel
theorem d3_27 : decode jdk_42_method_149_code 27 = .ok (.getstatic 38, 3) := by decide +kernel
theorem d3_30 : decode jdk_42_method_149_code 30 = .ok (.ifCond .eq 28, 3) := by decide +kernel
theorem d3_33 : decode jdk_42_method_149_code 33 = .ok (.aload_n 1, 1) := by decide +kernel
theorem d3_34 : decode jdk_42_method_149_code 34 = .ok (.iload_n 2, 1) := by decide +kernel
theorem d3_35 : decode jdk_42_method_149_code 35 = .ok (.iload_n 3, 1) := by decide +kernel
theorem d3_36 : decode jdk_42_method_149_code 36 = .ok (.invokestatic 177, 3) := by decide +kernel
theorem d3_39 : decode jdk_42_method_149_code 39 = .ok (.astore 5, 2) := by decide +kernel
theorem d3_41 : decode jdk_42_method_149_code 41 = .ok (.aload_n 0, 1) := by decide +kernel
theorem d3_42 : decode jdk_42_method_149_code 42 = .ok (.aload 5, 2) := by decide +kernel
theorem d3_44 : decode jdk_42_method_149_code 44 = .ok (.iload_n 3, 1) := by decide +kernel
theorem d3_45 : decode jdk_42_method_149_code 45 = .ok (.invokestatic 47, 3) := by decide +kernel
theorem d3_48 : decode jdk_42_method_149_code 48 = .ok (.putfield 15, 3) := by decide +kernel
theorem d3_51 : decode jdk_42_method_149_code 51 = .ok (.aload_n 0, 1) := by decide +kernel
theorem d3_52 : decode jdk_42_method_149_code 52 = .ok (.aload 5, 2) := by decide +kernel
theorem d3_54 : decode jdk_42_method_149_code 54 = .ok (.putfield 9, 3) := by decide +kernel
theorem d3_57 : decode jdk_42_method_149_code 57 = .ok (.return_, 1) := by decide +kernel
theorem d3_58 : decode jdk_42_method_149_code 58 = .ok (.aload_n 0, 1) := by decide +kernel
theorem d3_59 : decode jdk_42_method_149_code 59 = .ok (.iconst 1, 1) := by decide +kernel
theorem d3_60 : decode jdk_42_method_149_code 60 = .ok (.putfield 15, 3) := by decide +kernel
theorem d3_63 : decode jdk_42_method_149_code 63 = .ok (.aload_n 0, 1) := by decide +kernel
theorem d3_64 : decode jdk_42_method_149_code 64 = .ok (.aload_n 1, 1) := by decide +kernel
theorem d3_65 : decode jdk_42_method_149_code 65 = .ok (.iload_n 2, 1) := by decide +kernel
theorem d3_66 : decode jdk_42_method_149_code 66 = .ok (.iload_n 3, 1) := by decide +kernel
theorem d3_67 : decode jdk_42_method_149_code 67 = .ok (.invokestatic 180, 3) := by decide +kernel
theorem d3_70 : decode jdk_42_method_149_code 70 = .ok (.putfield 9, 3) := by decide +kernel
theorem d3_73 : decode jdk_42_method_149_code 73 = .ok (.return_, 1) := by decide +kernel
theorem ef_rmS3 (m : MethodId) (o : Addr) (ca : Addr) : entryFrame m #[(.ref o), (.ref ca), (.int (0 : Int32)), (.int (2 : Int32)), .null] 6 = mkF m 0 #[.val (.ref o), .val (.ref ca), .val (.int (0 : Int32)), .val (.int (2 : Int32)), .val .null, .unset] [] := by first | (simp [entryFrame, mkF, argsToLocals, Value.category]; done) | rfl
set_option maxRecDepth 65536 in
set_option maxHeartbeats 40000000 in
theorem rmS3 (l : Launch) (Z : State) (a0 : Array Value) (hw : ∀ d ∈ tables_1, d.before a0 Z = true) (o ca : Addr) (a b : Nat) (cs : Int32) (h0 : Heap) (n0 : Nat) (Z0 : n0 ≤ h0.size) (E : Exa Z h0 o "java/lang/String") (Fc : Fld Z h0 o "java/lang/String" "coder" "B" (.int 0)) (Fv : Fld Z h0 o "java/lang/String" "value" "[B" .null) (SC : Sta Z h0 "java/lang/String" "COMPACT_STRINGS" "Z" (.int cs)) (hcs : ¬ cs = 0) (A : IArr Z h0 ca .char 2 (two a b)) (ha : a ≤ 126) (hb' : b ≤ 126) (ge_o : n0 ≤ o) :
    Con l Z (⟨"java/lang/String", "<init>", "([CIILjava/lang/Void;)V"⟩ : MethodName) jdk_42_method_149_code 6 none [] ({ frames := 2, cells := 1, slots := 2, locals := 35 } : Room) #[(.ref o), (.ref ca), (.int (0 : Int32)), (.int (2 : Int32)), .null] h0 (fun v h L => v = none ∧ Fr n0 L ∧ Keep h0 h [o] ∧ ∃ vb : Addr, h0.size ≤ vb ∧ SV Z h o vb a b) := by
  refine Con.of (by decide +kernel) ?_
  intro p e s m below meth c s₁ hx hby hml hown hnm hret hlk hZ X0 e0
  refine Wp.enter (ef_rmS3 m o ca) ?_
  refine W.aloadN X0 hx 1 (hb hby d3_0) rfl rfl rfl ?_
  refine W.initO X0 hx hZ 4 0 hown (hw _ (List.mem_of_getElem? (i := 19) rfl)) (hw _ (List.mem_of_getElem? (i := 20) rfl)) (hw _ (List.mem_of_getElem? (i := 21) rfl)) e0 (by rw [hml]; rfl) (hb hby d3_1) (by decide) rfl (by decide) rfl ?_
  intro T1 X1 e1
  refine W.iloadN X1 hx 5 (hb hby d3_4) rfl rfl ?_
  refine W.ifNe X1 hx 27 8 (hb hby d3_5) (by decide) (by decide) rfl (fun q => ?_) (fun q => ?_)
  · skip
    refine W.getS X1 hx hZ 30 hown (hw _ (List.mem_of_getElem? (i := 22) rfl)) Via.refl e1 SC (hb hby d3_27) rfl ?_
    intro T2 X2 e2
    refine W.ifEq X2 hx 58 33 (hb hby d3_30) (by decide) (by decide) rfl (fun q => ?_) (fun q => ?_)
    · exact absurd q hcs
    · skip
      refine W.aloadN X2 hx 34 (hb hby d3_33) rfl rfl rfl ?_
      refine W.iloadN X2 hx 35 (hb hby d3_34) rfl rfl ?_
      refine W.iloadN X2 hx 36 (hb hby d3_35) rfl rfl ?_
      refine W.callS X2 hx hZ 39 0 [(.ref ca), (.int (0 : Int32)), (.int (2 : Int32))] hown (hw _ (List.mem_of_getElem? (i := 23) rfl)) (hw _ (List.mem_of_getElem? (i := 24) rfl)) (hw _ (List.mem_of_getElem? (i := 25) rfl)) (hw _ (List.mem_of_getElem? (i := 26) rfl)) (by decide) pd_1 rfl e2 (rmC3 l Z a0 hw ca a b h0 n0 Z0 A ha hb') (hb hby d3_36) (by rw [hml]; rfl) rfl rfl (by decide) (by decide) (by decide) (by decide) rfl ?_
      rintro v3 T3 L3 X3 ⟨ba, rfl, gb, N3, K3, B⟩
      have ne_o_ba : o ≠ ba := Nat.ne_of_lt (Nat.lt_of_lt_of_le Fc.lt gb)
      have E := E.keep K3
      have Fc := Fc.keep K3 nin0
      have Fv := Fv.keep K3 nin0
      have z3 : n0 ≤ T3.heap.size := Nat.le_trans Z0 K3.1
      have KP : Keep h0 T3.heap [o] := (Keep.refl _ _).trans K3 all0
      have gx_o : True := trivial
      refine W.astore X3 hx 41 #[.val (.ref o), .val (.ref ca), .val (.int (0 : Int32)), .val (.int (2 : Int32)), .val .null, .val (.ref ba)] (hb hby d3_39) rfl rfl rfl ?_
      refine W.aloadN X3 hx 42 (hb hby d3_41) rfl rfl rfl ?_
      refine W.aload X3 hx 44 (hb hby d3_42) rfl rfl rfl ?_
      refine W.iloadN X3 hx 45 (hb hby d3_44) rfl rfl ?_
      refine W.callS X3 hx hZ 48 1 [(.ref ba), (.int (2 : Int32))] hown (hw _ (List.mem_of_getElem? (i := 31) rfl)) (hw _ (List.mem_of_getElem? (i := 32) rfl)) (hw _ (List.mem_of_getElem? (i := 25) rfl)) (hw _ (List.mem_of_getElem? (i := 33) rfl)) (by decide) pd_2 rfl rfl (rmCL l Z a0 hw ba (two a b) T3.heap B) (hb hby d3_45) (by rw [hml]; rfl) rfl rfl (by decide) (by decide) (by decide) (by decide) rfl ?_
      rintro v4 T4 L4 X4 ⟨rfl, e4, rfl⟩
      refine W.putF X4 hx hZ 51 hown (hw _ (List.mem_of_getElem? (i := 34) rfl)) Via.refl e4 Fc E (Or.inr ⟨(hw _ (List.mem_of_getElem? (i := 35) rfl)), rfl, hnm⟩) (hw _ (List.mem_of_getElem? (i := 10) rfl)) (ty := .byte) (by decide) rfl rfl (hb hby d3_48) rfl ?_
      intro T5 h5 X5 e5 W5 Fc
      have E := E.wr W5
      have Fv := Fld.other W5 Fv (Or.inr (slot_ne (Or.inr (hw _ (List.mem_of_getElem? (i := 37) rfl))) (Or.inr (hw _ (List.mem_of_getElem? (i := 35) rfl))) (by decide) (t := (.array .byte)) (t' := .byte) (by decide) (by decide)))
      have B := B.other W5 ne_o_ba.symm
      have z5 : n0 ≤ h5.size := by rw [W5.size]; exact z3
      have KP := KP.wr W5 (by first | (refine Or.inl ?_; simp; done) | exact Or.inr gx_o)
      refine W.aloadN X5 hx 52 (hb hby d3_51) rfl rfl rfl ?_
      refine W.aload X5 hx 54 (hb hby d3_52) rfl rfl rfl ?_
      refine W.putF X5 hx hZ 57 hown (hw _ (List.mem_of_getElem? (i := 36) rfl)) Via.refl e5 Fv E (Or.inr ⟨(hw _ (List.mem_of_getElem? (i := 37) rfl)), rfl, hnm⟩) (hw _ (List.mem_of_getElem? (i := 10) rfl)) (ty := (.array .byte)) (by decide) rfl rfl (hb hby d3_54) rfl ?_
      intro T6 h6 X6 e6 W6 Fv
      have E := E.wr W6
      have Fc := Fld.other W6 Fc (Or.inr (slot_ne (Or.inr (hw _ (List.mem_of_getElem? (i := 35) rfl))) (Or.inr (hw _ (List.mem_of_getElem? (i := 37) rfl))) (by decide) (t := .byte) (t' := (.array .byte)) (by decide) (by decide)))
      have B := B.other W6 ne_o_ba.symm
      have z6 : n0 ≤ h6.size := by rw [W6.size]; exact z5
      have KP := KP.wr W6 (by first | (refine Or.inl ?_; simp; done) | exact Or.inr gx_o)
      refine W.vret X6 hx hlk hret (hb hby d3_57) (by decide) (by decide) ?_
      rw [e6]
      exact ⟨rfl, (Fr.app (Fr.app (Fr.app (Fr.app (Fr.nil _) N3) (Fr.nil _)) (fr1 ge_o)) (fr1 ge_o)), KP, ba, gb, E, Fc, Fv, B⟩
  · exact absurd q (by decide)
theorem d2_0 : decode jdk_42_method_3_code 0 = .ok (.aload_n 0, 1) := by decide +kernel
theorem d2_1 : decode jdk_42_method_3_code 1 = .ok (.aload_n 1, 1) := by decide +kernel
theorem d2_2 : decode jdk_42_method_3_code 2 = .ok (.iconst 0, 1) := by decide +kernel
theorem d2_3 : decode jdk_42_method_3_code 3 = .ok (.aload_n 1, 1) := by decide +kernel
theorem d2_4 : decode jdk_42_method_3_code 4 = .ok (.arraylength, 1) := by decide +kernel
theorem d2_5 : decode jdk_42_method_3_code 5 = .ok (.aconst_null, 1) := by decide +kernel
theorem d2_6 : decode jdk_42_method_3_code 6 = .ok (.invokespecial 27, 3) := by decide +kernel
theorem d2_9 : decode jdk_42_method_3_code 9 = .ok (.return_, 1) := by decide +kernel
theorem ef_rmS1 (m : MethodId) (o : Addr) (ca : Addr) : entryFrame m #[(.ref o), (.ref ca)] 2 = mkF m 0 #[.val (.ref o), .val (.ref ca)] [] := by first | (simp [entryFrame, mkF, argsToLocals, Value.category]; done) | rfl
set_option maxRecDepth 65536 in
set_option maxHeartbeats 40000000 in
theorem rmS1 (l : Launch) (Z : State) (a0 : Array Value) (hw : ∀ d ∈ tables_1, d.before a0 Z = true) (o ca : Addr) (a b : Nat) (cs : Int32) (h0 : Heap) (n0 : Nat) (Z0 : n0 ≤ h0.size) (E : Exa Z h0 o "java/lang/String") (Fc : Fld Z h0 o "java/lang/String" "coder" "B" (.int 0)) (Fv : Fld Z h0 o "java/lang/String" "value" "[B" .null) (SC : Sta Z h0 "java/lang/String" "COMPACT_STRINGS" "Z" (.int cs)) (hcs : ¬ cs = 0) (A : IArr Z h0 ca .char 2 (two a b)) (ha : a ≤ 126) (hb' : b ≤ 126) (ge_o : n0 ≤ o) :
    Con l Z (⟨"java/lang/String", "<init>", "([C)V"⟩ : MethodName) jdk_42_method_3_code 2 none [] ({ frames := 3, cells := 1, slots := 2, locals := 52 } : Room) #[(.ref o), (.ref ca)] h0 (fun v h L => v = none ∧ Fr n0 L ∧ Keep h0 h [o] ∧ ∃ vb : Addr, h0.size ≤ vb ∧ SV Z h o vb a b) := by
  refine Con.of (by decide +kernel) ?_
  intro p e s m below meth c s₁ hx hby hml hown hnm hret hlk hZ X0 e0
  refine Wp.enter (ef_rmS1 m o ca) ?_
  refine W.aloadN X0 hx 1 (hb hby d2_0) rfl rfl rfl ?_
  refine W.aloadN X0 hx 2 (hb hby d2_1) rfl rfl rfl ?_
  refine W.iconst X0 hx 3 (0 : Int32) (hb hby d2_2) rfl rfl ?_
  refine W.aloadN X0 hx 4 (hb hby d2_3) rfl rfl rfl ?_
  refine W.arrlen X0 hx hZ 5 e0 A (2 : Int32) rfl (hb hby d2_4) rfl ?_
  refine W.anull X0 hx 6 (hb hby d2_5) rfl ?_
  refine W.callI X0 hx hZ 9 0 o [(.ref ca), (.int (0 : Int32)), (.int (2 : Int32)), .null] rfl hown (hw _ (List.mem_of_getElem? (i := 15) rfl)) (hw _ (List.mem_of_getElem? (i := 16) rfl)) (hw _ (List.mem_of_getElem? (i := 11) rfl)) (hw _ (List.mem_of_getElem? (i := 18) rfl)) (by decide) pd_3 rfl e0 (rmS3 l Z a0 hw o ca a b cs h0 n0 Z0 E Fc Fv SC hcs A ha hb' ge_o) (hb hby d2_6) (by rw [hml]; rfl) rfl rfl (by decide) (by decide) (by decide) (by decide) rfl ?_
  rintro v1 T1 L1 X1 ⟨rfl, N1, K1, vb, gv, I⟩
  refine W.vret X1 hx hlk hret (hb hby d2_9) (by decide) (by decide) ?_
  exact ⟨rfl, (Fr.app (Fr.nil _) N1), K1, vb, gv, I⟩
theorem d13_0 : decode jdk_42_method_55_code 0 = .ok (.aload_n 0, 1) := by decide +kernel
theorem d13_1 : decode jdk_42_method_55_code 1 = .ok (.getfield 9, 3) := by decide +kernel
theorem d13_4 : decode jdk_42_method_55_code 4 = .ok (.arraylength, 1) := by decide +kernel
theorem d13_5 : decode jdk_42_method_55_code 5 = .ok (.ifCond .ne 7, 3) := by decide +kernel
theorem d13_8 : decode jdk_42_method_55_code 8 = .ok (.iconst 1, 1) := by decide +kernel
theorem d13_9 : decode jdk_42_method_55_code 9 = .ok (.goto 4, 3) := by decide +kernel
theorem d13_12 : decode jdk_42_method_55_code 12 = .ok (.iconst 0, 1) := by decide +kernel
theorem d13_13 : decode jdk_42_method_55_code 13 = .ok (.ireturn, 1) := by decide +kernel
theorem ef_rmIE (m : MethodId) (o : Addr) : entryFrame m #[(.ref o)] 1 = mkF m 0 #[.val (.ref o)] [] := by first | (simp [entryFrame, mkF, argsToLocals, Value.category]; done) | rfl
set_option maxRecDepth 65536 in
set_option maxHeartbeats 40000000 in
theorem rmIE (l : Launch) (Z : State) (a0 : Array Value) (hw : ∀ d ∈ tables_1, d.before a0 Z = true) (o vb : Addr) (a b : Nat) (h0 : Heap) (I : SV Z h0 o vb a b) :
    Con l Z (⟨"java/lang/String", "isEmpty", "()Z"⟩ : MethodName) jdk_42_method_55_code 1 (some .boolean) [] ({ frames := 0, cells := 0, slots := 0, locals := 0 } : Room) #[(.ref o)] h0 (fun v h L => v = some (.int 0) ∧ h = h0 ∧ L = []) := by
  refine Con.of (by decide +kernel) ?_
  intro p e s m below meth c s₁ hx hby hml hown hnm hret hlk hZ X0 e0
  refine Wp.enter (ef_rmIE m o) ?_
  obtain ⟨E, Fc, Fv, B⟩ := id I
  refine W.aloadN X0 hx 1 (hb hby d13_0) rfl rfl rfl ?_
  refine W.getF X0 hx hZ 4 hown (hw _ (List.mem_of_getElem? (i := 36) rfl)) Via.refl e0 Fv (hb hby d13_1) rfl ?_
  intro T1 X1 e1
  refine W.arrlen X1 hx hZ 5 e1 B (2 : Int32) rfl (hb hby d13_4) rfl ?_
  refine W.ifNe X1 hx 12 8 (hb hby d13_5) (by decide) (by decide) rfl (fun q => ?_) (fun q => ?_)
  · skip
    refine W.iconst X1 hx 13 (0 : Int32) (hb hby d13_12) rfl rfl ?_
    refine W.nret X1 hx hlk (t := .boolean) hret (by simp) (hb hby d13_13) (by decide) (by decide) ?_
    exact ⟨rfl, e1, rfl⟩
  · exact absurd q (by decide)
theorem d15_0 : decode jdk_42_method_152_code 0 = .ok (.getstatic 38, 3) := by decide +kernel
theorem d15_3 : decode jdk_42_method_152_code 3 = .ok (.ifCond .eq 10, 3) := by decide +kernel
theorem d15_6 : decode jdk_42_method_152_code 6 = .ok (.aload_n 0, 1) := by decide +kernel
theorem d15_7 : decode jdk_42_method_152_code 7 = .ok (.getfield 15, 3) := by decide +kernel
theorem d15_10 : decode jdk_42_method_152_code 10 = .ok (.goto 4, 3) := by decide +kernel
theorem d15_13 : decode jdk_42_method_152_code 13 = .ok (.iconst 1, 1) := by decide +kernel
theorem d15_14 : decode jdk_42_method_152_code 14 = .ok (.ireturn, 1) := by decide +kernel
theorem ef_rmCo (m : MethodId) (o : Addr) : entryFrame m #[(.ref o)] 1 = mkF m 0 #[.val (.ref o)] [] := by first | (simp [entryFrame, mkF, argsToLocals, Value.category]; done) | rfl
set_option maxRecDepth 65536 in
set_option maxHeartbeats 40000000 in
theorem rmCo (l : Launch) (Z : State) (a0 : Array Value) (hw : ∀ d ∈ tables_1, d.before a0 Z = true) (o vb : Addr) (a b : Nat) (cs : Int32) (h0 : Heap) (I : SV Z h0 o vb a b) (SC : Sta Z h0 "java/lang/String" "COMPACT_STRINGS" "Z" (.int cs)) (hcs : ¬ cs = 0) :
    Con l Z (⟨"java/lang/String", "coder", "()B"⟩ : MethodName) jdk_42_method_152_code 1 (some .byte) [] ({ frames := 0, cells := 0, slots := 0, locals := 0 } : Room) #[(.ref o)] h0 (fun v h L => v = some (.int 0) ∧ h = h0 ∧ L = []) := by
  refine Con.of (by decide +kernel) ?_
  intro p e s m below meth c s₁ hx hby hml hown hnm hret hlk hZ X0 e0
  refine Wp.enter (ef_rmCo m o) ?_
  obtain ⟨E, Fc, Fv, B⟩ := id I
  refine W.getS X0 hx hZ 3 hown (hw _ (List.mem_of_getElem? (i := 22) rfl)) Via.refl e0 SC (hb hby d15_0) rfl ?_
  intro T1 X1 e1
  refine W.ifEq X1 hx 13 6 (hb hby d15_3) (by decide) (by decide) rfl (fun q => ?_) (fun q => ?_)
  · exact absurd q hcs
  · skip
    refine W.aloadN X1 hx 7 (hb hby d15_6) rfl rfl rfl ?_
    refine W.getF X1 hx hZ 10 hown (hw _ (List.mem_of_getElem? (i := 34) rfl)) Via.refl e1 Fc (hb hby d15_7) rfl ?_
    intro T2 X2 e2
    refine W.goto X2 hx 14 (hb hby d15_10) (by decide) (by decide) ?_
    refine W.nret X2 hx hlk (t := .byte) hret (by simp) (hb hby d15_14) (by decide) (by decide) ?_
    exact ⟨rfl, e2, rfl⟩
theorem d14_0 : decode jdk_42_method_54_code 0 = .ok (.aload_n 0, 1) := by decide +kernel
theorem d14_1 : decode jdk_42_method_54_code 1 = .ok (.getfield 9, 3) := by decide +kernel
theorem d14_4 : decode jdk_42_method_54_code 4 = .ok (.arraylength, 1) := by decide +kernel
theorem d14_5 : decode jdk_42_method_54_code 5 = .ok (.aload_n 0, 1) := by decide +kernel
theorem d14_6 : decode jdk_42_method_54_code 6 = .ok (.invokevirtual 335, 3) := by decide +kernel
theorem d14_9 : decode jdk_42_method_54_code 9 = .ok (.ishr, 1) := by decide +kernel
theorem d14_10 : decode jdk_42_method_54_code 10 = .ok (.ireturn, 1) := by decide +kernel
theorem ef_rmLe (m : MethodId) (o : Addr) : entryFrame m #[(.ref o)] 1 = mkF m 0 #[.val (.ref o)] [] := by first | (simp [entryFrame, mkF, argsToLocals, Value.category]; done) | rfl
set_option maxRecDepth 65536 in
set_option maxHeartbeats 40000000 in
theorem rmLe (l : Launch) (Z : State) (a0 : Array Value) (hw : ∀ d ∈ tables_1, d.before a0 Z = true) (o vb : Addr) (a b : Nat) (cs : Int32) (h0 : Heap) (I : SV Z h0 o vb a b) (SC : Sta Z h0 "java/lang/String" "COMPACT_STRINGS" "Z" (.int cs)) (hcs : ¬ cs = 0) :
    Con l Z (⟨"java/lang/String", "length", "()I"⟩ : MethodName) jdk_42_method_54_code 1 (some .int) [] ({ frames := 1, cells := 0, slots := 0, locals := 13 } : Room) #[(.ref o)] h0 (fun v h L => v = some (.int 2) ∧ h = h0 ∧ L = []) := by
  refine Con.of (by decide +kernel) ?_
  intro p e s m below meth c s₁ hx hby hml hown hnm hret hlk hZ X0 e0
  refine Wp.enter (ef_rmLe m o) ?_
  obtain ⟨E, Fc, Fv, B⟩ := id I
  refine W.aloadN X0 hx 1 (hb hby d14_0) rfl rfl rfl ?_
  refine W.getF X0 hx hZ 4 hown (hw _ (List.mem_of_getElem? (i := 36) rfl)) Via.refl e0 Fv (hb hby d14_1) rfl ?_
  intro T1 X1 e1
  refine W.arrlen X1 hx hZ 5 e1 B (2 : Int32) rfl (hb hby d14_4) rfl ?_
  refine W.aloadN X1 hx 6 (hb hby d14_5) rfl rfl rfl ?_
  refine W.callV X1 hx hZ 9 1 o [] hown (hw _ (List.mem_of_getElem? (i := 71) rfl)) (hw _ (List.mem_of_getElem? (i := 72) rfl)) (hw _ (List.mem_of_getElem? (i := 74) rfl)) (hw _ (List.mem_of_getElem? (i := 73) rfl)) (hw _ (List.mem_of_getElem? (i := 11) rfl)) (hw _ (List.mem_of_getElem? (i := 75) rfl)) (by decide) pd_4 rfl e1 E (rmCo l Z a0 hw o vb a b cs h0 I SC hcs) (hb hby d14_6) (by rw [hml]; rfl) rfl rfl (by decide) (by decide) (by decide) (by decide) rfl ?_
  rintro v2 T2 L2 X2 ⟨rfl, e2, rfl⟩
  refine W.ishr X2 hx 10 (hb hby d14_9) rfl ?_
  refine W.iret X2 hx hlk hret (hb hby d14_10) (by decide) (by decide) ?_
  exact ⟨(congrArg (fun z : Int32 => some (Value.int z)) (by decide)), e2, rfl⟩
theorem d17_0 : decode jdk_42_method_154_code 0 = .ok (.getstatic 38, 3) := by decide +kernel
theorem d17_3 : decode jdk_42_method_154_code 3 = .ok (.ifCond .eq 14, 3) := by decide +kernel
theorem d17_6 : decode jdk_42_method_154_code 6 = .ok (.aload_n 0, 1) := by decide +kernel
theorem d17_7 : decode jdk_42_method_154_code 7 = .ok (.getfield 15, 3) := by decide +kernel
theorem d17_10 : decode jdk_42_method_154_code 10 = .ok (.ifCond .ne 7, 3) := by decide +kernel
theorem d17_13 : decode jdk_42_method_154_code 13 = .ok (.iconst 1, 1) := by decide +kernel
theorem d17_14 : decode jdk_42_method_154_code 14 = .ok (.goto 4, 3) := by decide +kernel
theorem d17_17 : decode jdk_42_method_154_code 17 = .ok (.iconst 0, 1) := by decide +kernel
theorem d17_18 : decode jdk_42_method_154_code 18 = .ok (.ireturn, 1) := by decide +kernel
theorem ef_rmL1 (m : MethodId) (o : Addr) : entryFrame m #[(.ref o)] 1 = mkF m 0 #[.val (.ref o)] [] := by first | (simp [entryFrame, mkF, argsToLocals, Value.category]; done) | rfl
set_option maxRecDepth 65536 in
set_option maxHeartbeats 40000000 in
theorem rmL1 (l : Launch) (Z : State) (a0 : Array Value) (hw : ∀ d ∈ tables_1, d.before a0 Z = true) (o vb : Addr) (a b : Nat) (cs : Int32) (h0 : Heap) (I : SV Z h0 o vb a b) (SC : Sta Z h0 "java/lang/String" "COMPACT_STRINGS" "Z" (.int cs)) (hcs : ¬ cs = 0) :
    Con l Z (⟨"java/lang/String", "isLatin1", "()Z"⟩ : MethodName) jdk_42_method_154_code 1 (some .boolean) [] ({ frames := 0, cells := 0, slots := 0, locals := 0 } : Room) #[(.ref o)] h0 (fun v h L => v = some (.int 1) ∧ h = h0 ∧ L = []) := by
  refine Con.of (by decide +kernel) ?_
  intro p e s m below meth c s₁ hx hby hml hown hnm hret hlk hZ X0 e0
  refine Wp.enter (ef_rmL1 m o) ?_
  obtain ⟨E, Fc, Fv, B⟩ := id I
  refine W.getS X0 hx hZ 3 hown (hw _ (List.mem_of_getElem? (i := 22) rfl)) Via.refl e0 SC (hb hby d17_0) rfl ?_
  intro T1 X1 e1
  refine W.ifEq X1 hx 17 6 (hb hby d17_3) (by decide) (by decide) rfl (fun q => ?_) (fun q => ?_)
  · exact absurd q hcs
  · skip
    refine W.aloadN X1 hx 7 (hb hby d17_6) rfl rfl rfl ?_
    refine W.getF X1 hx hZ 10 hown (hw _ (List.mem_of_getElem? (i := 34) rfl)) Via.refl e1 Fc (hb hby d17_7) rfl ?_
    intro T2 X2 e2
    refine W.ifNe X2 hx 17 13 (hb hby d17_10) (by decide) (by decide) rfl (fun q => ?_) (fun q => ?_)
    · exact absurd rfl q
    · skip
      refine W.iconst X2 hx 14 (1 : Int32) (hb hby d17_13) rfl rfl ?_
      refine W.goto X2 hx 18 (hb hby d17_14) (by decide) (by decide) ?_
      refine W.nret X2 hx hlk (t := .boolean) hret (by simp) (hb hby d17_18) (by decide) (by decide) ?_
      exact ⟨rfl, e2, rfl⟩
theorem d20_0 : decode jdk_41_method_11_code 0 = .ok (.iload_n 0, 1) := by decide +kernel
theorem d20_1 : decode jdk_41_method_11_code 1 = .ok (.ifCond .lt 8, 3) := by decide +kernel
theorem d20_4 : decode jdk_41_method_11_code 4 = .ok (.iload_n 0, 1) := by decide +kernel
theorem d20_5 : decode jdk_41_method_11_code 5 = .ok (.iload_n 1, 1) := by decide +kernel
theorem d20_6 : decode jdk_41_method_11_code 6 = .ok (.if_icmp .lt 10, 3) := by decide +kernel
theorem d20_9 : decode jdk_41_method_11_code 9 = .ok (.aload_n 2, 1) := by decide +kernel
theorem d20_10 : decode jdk_41_method_11_code 10 = .ok (.iload_n 0, 1) := by decide +kernel
theorem d20_11 : decode jdk_41_method_11_code 11 = .ok (.iload_n 1, 1) := by decide +kernel
theorem d20_12 : decode jdk_41_method_11_code 12 = .ok (.invokestatic 95, 3) := by decide +kernel
theorem d20_15 : decode jdk_41_method_11_code 15 = .ok (.athrow, 1) := by decide +kernel
theorem d20_16 : decode jdk_41_method_11_code 16 = .ok (.iload_n 0, 1) := by decide +kernel
theorem d20_17 : decode jdk_41_method_11_code 17 = .ok (.ireturn, 1) := by decide +kernel
theorem ef_rmPC (m : MethodId) (j : Int32) (fm : Value) (h_fm : fm.isRef = true) : entryFrame m #[(.int j), (.int (2 : Int32)), fm] 3 = mkF m 0 #[.val (.int j), .val (.int (2 : Int32)), .val fm] [] := by
  rcases ref_cases h_fm with rfl | ⟨z_fm, rfl⟩ <;> first | (simp [entryFrame, mkF, argsToLocals, Value.category]; done) | rfl
set_option maxRecDepth 65536 in
set_option maxHeartbeats 40000000 in
theorem rmPC (l : Launch) (Z : State) (a0 : Array Value) (hw : ∀ d ∈ tables_1, d.before a0 Z = true) (j : Int32) (i : Nat) (fm : Value) (h0 : Heap) (hj : j.toInt = (i : Int)) (hi : i < 2) (hfm : fm.isRef = true) :
    Con l Z (⟨"jdk/internal/util/Preconditions", "checkIndex", "(IILjava/util/function/BiFunction;)I"⟩ : MethodName) jdk_41_method_11_code 3 (some .int) [] ({ frames := 0, cells := 0, slots := 0, locals := 0 } : Room) #[(.int j), (.int (2 : Int32)), fm] h0 (fun v h L => v = some (.int j) ∧ h = h0 ∧ L = []) := by
  refine Con.of (by decide +kernel) ?_
  intro p e s m below meth c s₁ hx hby hml hown hnm hret hlk hZ X0 e0
  refine Wp.enter (ef_rmPC m j fm hfm) ?_
  refine W.iloadN X0 hx 1 (hb hby d20_0) rfl rfl ?_
  have j0 : ¬ j < 0 := (nat_of hj).1
  have j2 : j < 2 := by rw [Int32.lt_iff_toInt_lt, hj]; show (i : Int) < 2; omega
  refine W.ifLt X0 hx 9 4 (hb hby d20_1) (by decide) (by decide) rfl (fun q => ?_) (fun q => ?_)
  · exact absurd q j0
  · skip
    refine W.iloadN X0 hx 5 (hb hby d20_4) rfl rfl ?_
    refine W.iloadN X0 hx 6 (hb hby d20_5) rfl rfl ?_
    refine W.icmpLt X0 hx 16 9 (hb hby d20_6) (by decide) (by decide) rfl (fun q => ?_) (fun q => ?_)
    · skip
      refine W.iloadN X0 hx 17 (hb hby d20_16) rfl rfl ?_
      refine W.iret X0 hx hlk hret (hb hby d20_17) (by decide) (by decide) ?_
      exact ⟨rfl, e0, rfl⟩
    · exact absurd j2 q
theorem d19_0 : decode jdk_42_method_155_code 0 = .ok (.iload_n 0, 1) := by decide +kernel
theorem d19_1 : decode jdk_42_method_155_code 1 = .ok (.iload_n 1, 1) := by decide +kernel
theorem d19_2 : decode jdk_42_method_155_code 2 = .ok (.getstatic 1053, 3) := by decide +kernel
theorem d19_5 : decode jdk_42_method_155_code 5 = .ok (.invokestatic 1059, 3) := by decide +kernel
theorem d19_8 : decode jdk_42_method_155_code 8 = .ok (.pop, 1) := by decide +kernel
theorem d19_9 : decode jdk_42_method_155_code 9 = .ok (.return_, 1) := by decide +kernel
theorem ef_rmSC (m : MethodId) (j : Int32) : entryFrame m #[(.int j), (.int (2 : Int32))] 2 = mkF m 0 #[.val (.int j), .val (.int (2 : Int32))] [] := by first | (simp [entryFrame, mkF, argsToLocals, Value.category]; done) | rfl
set_option maxRecDepth 65536 in
set_option maxHeartbeats 40000000 in
theorem rmSC (l : Launch) (Z : State) (a0 : Array Value) (hw : ∀ d ∈ tables_1, d.before a0 Z = true) (j : Int32) (i : Nat) (fm : Value) (h0 : Heap) (hj : j.toInt = (i : Int)) (hi : i < 2) (SF : Sta Z h0 "jdk/internal/util/Preconditions" "SIOOBE_FORMATTER" "Ljava/util/function/BiFunction;" fm) (hfm : fm.isRef = true) :
    Con l Z (⟨"java/lang/String", "checkIndex", "(II)V"⟩ : MethodName) jdk_42_method_155_code 2 none [] ({ frames := 1, cells := 0, slots := 0, locals := 14 } : Room) #[(.int j), (.int (2 : Int32))] h0 (fun v h L => v = none ∧ h = h0 ∧ L = []) := by
  refine Con.of (by decide +kernel) ?_
  intro p e s m below meth c s₁ hx hby hml hown hnm hret hlk hZ X0 e0
  refine Wp.enter (ef_rmSC m j) ?_
  refine W.iloadN X0 hx 1 (hb hby d19_0) rfl rfl ?_
  refine W.iloadN X0 hx 2 (hb hby d19_1) rfl rfl ?_
  refine W.getS X0 hx hZ 5 hown (hw _ (List.mem_of_getElem? (i := 93) rfl)) Via.refl e0 SF (hb hby d19_2) rfl ?_
  intro T1 X1 e1
  refine W.callS X1 hx hZ 8 0 [(.int j), (.int (2 : Int32)), fm] hown (hw _ (List.mem_of_getElem? (i := 95) rfl)) (hw _ (List.mem_of_getElem? (i := 96) rfl)) (hw _ (List.mem_of_getElem? (i := 94) rfl)) (hw _ (List.mem_of_getElem? (i := 97) rfl)) (by decide) pd_5 rfl e1 (rmPC l Z a0 hw j i fm h0 hj hi hfm) (hb hby d19_5) (by rw [hml]; rfl) rfl rfl (by decide) (by decide) (by decide) (by decide) rfl ?_
  rintro v2 T2 L2 X2 ⟨rfl, e2, rfl⟩
  refine W.pop1 X2 hx 9 (hb hby d19_8) rfl rfl ?_
  refine W.vret X2 hx hlk hret (hb hby d19_9) (by decide) (by decide) ?_
  exact ⟨rfl, e2, rfl⟩
theorem d18_0 : decode jdk_43_method_2_code 0 = .ok (.iload_n 1, 1) := by decide +kernel
theorem d18_1 : decode jdk_43_method_2_code 1 = .ok (.aload_n 0, 1) := by decide +kernel
theorem d18_2 : decode jdk_43_method_2_code 2 = .ok (.arraylength, 1) := by decide +kernel
theorem d18_3 : decode jdk_43_method_2_code 3 = .ok (.invokestatic 9, 3) := by decide +kernel
theorem d18_6 : decode jdk_43_method_2_code 6 = .ok (.aload_n 0, 1) := by decide +kernel
theorem d18_7 : decode jdk_43_method_2_code 7 = .ok (.iload_n 1, 1) := by decide +kernel
theorem d18_8 : decode jdk_43_method_2_code 8 = .ok (.baload, 1) := by decide +kernel
theorem d18_9 : decode jdk_43_method_2_code 9 = .ok (.sipush 255, 3) := by decide +kernel
theorem d18_12 : decode jdk_43_method_2_code 12 = .ok (.iand, 1) := by decide +kernel
theorem d18_13 : decode jdk_43_method_2_code 13 = .ok (.i2c, 1) := by decide +kernel
theorem d18_14 : decode jdk_43_method_2_code 14 = .ok (.ireturn, 1) := by decide +kernel
theorem ef_rmLC (m : MethodId) (vb : Addr) (j : Int32) : entryFrame m #[(.ref vb), (.int j)] 2 = mkF m 0 #[.val (.ref vb), .val (.int j)] [] := by first | (simp [entryFrame, mkF, argsToLocals, Value.category]; done) | rfl
set_option maxRecDepth 65536 in
set_option maxHeartbeats 40000000 in
theorem rmLC (l : Launch) (Z : State) (a0 : Array Value) (hw : ∀ d ∈ tables_1, d.before a0 Z = true) (vb : Addr) (j : Int32) (i a b r : Nat) (fm : Value) (h0 : Heap) (B : IArr Z h0 vb .byte 2 (two a b)) (hj : j.toInt = (i : Int)) (hi : i < 2) (hr : two a b i = .int (Int32.ofNat r)) (hr1 : r ≤ 126) (SF : Sta Z h0 "jdk/internal/util/Preconditions" "SIOOBE_FORMATTER" "Ljava/util/function/BiFunction;" fm) (hfm : fm.isRef = true) :
    Con l Z (⟨"java/lang/StringLatin1", "charAt", "([BI)C"⟩ : MethodName) jdk_43_method_2_code 2 (some .char) [] ({ frames := 2, cells := 0, slots := 0, locals := 27 } : Room) #[(.ref vb), (.int j)] h0 (fun v h L => v = some (.int (Int32.ofNat r)) ∧ h = h0 ∧ L = []) := by
  refine Con.of (by decide +kernel) ?_
  intro p e s m below meth c s₁ hx hby hml hown hnm hret hlk hZ X0 e0
  refine Wp.enter (ef_rmLC m vb j) ?_
  refine W.iloadN X0 hx 1 (hb hby d18_0) rfl rfl ?_
  refine W.aloadN X0 hx 2 (hb hby d18_1) rfl rfl rfl ?_
  refine W.arrlen X0 hx hZ 3 e0 B (2 : Int32) rfl (hb hby d18_2) rfl ?_
  refine W.callS X0 hx hZ 6 0 [(.int j), (.int (2 : Int32))] hown (hw _ (List.mem_of_getElem? (i := 90) rfl)) (hw _ (List.mem_of_getElem? (i := 91) rfl)) (hw _ (List.mem_of_getElem? (i := 11) rfl)) (hw _ (List.mem_of_getElem? (i := 92) rfl)) (by decide) pd_6 rfl e0 (rmSC l Z a0 hw j i fm h0 hj hi SF hfm) (hb hby d18_3) (by rw [hml]; rfl) rfl rfl (by decide) (by decide) (by decide) (by decide) rfl ?_
  rintro v1 T1 L1 X1 ⟨rfl, e1, rfl⟩
  refine W.aloadN X1 hx 7 (hb hby d18_6) rfl rfl rfl ?_
  refine W.iloadN X1 hx 8 (hb hby d18_7) rfl rfl ?_
  refine W.baload X1 hx hZ 9 i (.int (Int32.ofNat r)) e1 B hj hi hr (hb hby d18_8) rfl ?_
  refine W.sipush X1 hx 12 (255 : Int32) (hb hby d18_9) rfl rfl ?_
  refine W.iand X1 hx 13 (hb hby d18_12) rfl ?_
  rw [(own_ch r (by omega)).2.2.2.2.1]
  refine W.i2c X1 hx 14 (hb hby d18_13) rfl ?_
  rw [(own_ch r (by omega)).1]
  refine W.nret X1 hx hlk (t := .char) hret (by simp) (hb hby d18_14) (by decide) (by decide) ?_
  exact ⟨(congrArg (fun z : Int32 => some (Value.int z)) (own_ch r (by omega)).2.2.1), e1, rfl⟩
theorem d16_0 : decode jdk_42_method_56_code 0 = .ok (.aload_n 0, 1) := by decide +kernel
theorem d16_1 : decode jdk_42_method_56_code 1 = .ok (.invokevirtual 492, 3) := by decide +kernel
theorem d16_4 : decode jdk_42_method_56_code 4 = .ok (.ifCond .eq 12, 3) := by decide +kernel
theorem d16_7 : decode jdk_42_method_56_code 7 = .ok (.aload_n 0, 1) := by decide +kernel
theorem d16_8 : decode jdk_42_method_56_code 8 = .ok (.getfield 9, 3) := by decide +kernel
theorem d16_11 : decode jdk_42_method_56_code 11 = .ok (.iload_n 1, 1) := by decide +kernel
theorem d16_12 : decode jdk_42_method_56_code 12 = .ok (.invokestatic 495, 3) := by decide +kernel
theorem d16_15 : decode jdk_42_method_56_code 15 = .ok (.ireturn, 1) := by decide +kernel
theorem d16_16 : decode jdk_42_method_56_code 16 = .ok (.aload_n 0, 1) := by decide +kernel
theorem d16_17 : decode jdk_42_method_56_code 17 = .ok (.getfield 9, 3) := by decide +kernel
theorem d16_20 : decode jdk_42_method_56_code 20 = .ok (.iload_n 1, 1) := by decide +kernel
theorem d16_21 : decode jdk_42_method_56_code 21 = .ok (.invokestatic 498, 3) := by decide +kernel
theorem d16_24 : decode jdk_42_method_56_code 24 = .ok (.ireturn, 1) := by decide +kernel
theorem ef_rmCA (m : MethodId) (o : Addr) (j : Int32) : entryFrame m #[(.ref o), (.int j)] 2 = mkF m 0 #[.val (.ref o), .val (.int j)] [] := by first | (simp [entryFrame, mkF, argsToLocals, Value.category]; done) | rfl
set_option maxRecDepth 65536 in
set_option maxHeartbeats 40000000 in
theorem rmCA (l : Launch) (Z : State) (a0 : Array Value) (hw : ∀ d ∈ tables_1, d.before a0 Z = true) (o vb : Addr) (j : Int32) (i a b r : Nat) (fm : Value) (cs : Int32) (h0 : Heap) (I : SV Z h0 o vb a b) (hj : j.toInt = (i : Int)) (hi : i < 2) (hr : two a b i = .int (Int32.ofNat r)) (hr1 : r ≤ 126) (SF : Sta Z h0 "jdk/internal/util/Preconditions" "SIOOBE_FORMATTER" "Ljava/util/function/BiFunction;" fm) (hfm : fm.isRef = true) (SC : Sta Z h0 "java/lang/String" "COMPACT_STRINGS" "Z" (.int cs)) (hcs : ¬ cs = 0) :
    Con l Z (⟨"java/lang/String", "charAt", "(I)C"⟩ : MethodName) jdk_42_method_56_code 2 (some .char) [] ({ frames := 3, cells := 0, slots := 0, locals := 40 } : Room) #[(.ref o), (.int j)] h0 (fun v h L => v = some (.int (Int32.ofNat r)) ∧ h = h0 ∧ L = []) := by
  refine Con.of (by decide +kernel) ?_
  intro p e s m below meth c s₁ hx hby hml hown hnm hret hlk hZ X0 e0
  refine Wp.enter (ef_rmCA m o j) ?_
  obtain ⟨E, Fc, Fv, B⟩ := id I
  refine W.aloadN X0 hx 1 (hb hby d16_0) rfl rfl rfl ?_
  refine W.callV X0 hx hZ 4 0 o [] hown (hw _ (List.mem_of_getElem? (i := 81) rfl)) (hw _ (List.mem_of_getElem? (i := 82) rfl)) (hw _ (List.mem_of_getElem? (i := 84) rfl)) (hw _ (List.mem_of_getElem? (i := 83) rfl)) (hw _ (List.mem_of_getElem? (i := 11) rfl)) (hw _ (List.mem_of_getElem? (i := 85) rfl)) (by decide) pd_7 rfl e0 E (rmL1 l Z a0 hw o vb a b cs h0 I SC hcs) (hb hby d16_1) (by rw [hml]; rfl) rfl rfl (by decide) (by decide) (by decide) (by decide) rfl ?_
  rintro v1 T1 L1 X1 ⟨rfl, e1, rfl⟩
  refine W.ifEq X1 hx 16 7 (hb hby d16_4) (by decide) (by decide) rfl (fun q => ?_) (fun q => ?_)
  · exact absurd q (by decide)
  · skip
    refine W.aloadN X1 hx 8 (hb hby d16_7) rfl rfl rfl ?_
    refine W.getF X1 hx hZ 11 hown (hw _ (List.mem_of_getElem? (i := 36) rfl)) Via.refl e1 Fv (hb hby d16_8) rfl ?_
    intro T2 X2 e2
    refine W.iloadN X2 hx 12 (hb hby d16_11) rfl rfl ?_
    refine W.callS X2 hx hZ 15 0 [(.ref vb), (.int j)] hown (hw _ (List.mem_of_getElem? (i := 86) rfl)) (hw _ (List.mem_of_getElem? (i := 87) rfl)) (hw _ (List.mem_of_getElem? (i := 88) rfl)) (hw _ (List.mem_of_getElem? (i := 89) rfl)) (by decide) pd_8 rfl e2 (rmLC l Z a0 hw vb j i a b r fm h0 B hj hi hr hr1 SF hfm) (hb hby d16_12) (by rw [hml]; rfl) rfl rfl (by decide) (by decide) (by decide) (by decide) rfl ?_
    rintro v3 T3 L3 X3 ⟨rfl, e3, rfl⟩
    refine W.nret X3 hx hlk (t := .char) hret (by simp) (hb hby d16_15) (by decide) (by decide) ?_
    exact ⟨(congrArg (fun z : Int32 => some (Value.int z)) (own_ch r (by omega)).2.2.1), e3, rfl⟩
theorem d21_0 : decode prog_7_method_19_code 0 = .ok (.iload_n 0, 1) := by decide +kernel
theorem d21_1 : decode prog_7_method_19_code 1 = .ok (.bipush 33, 2) := by decide +kernel
theorem d21_3 : decode prog_7_method_19_code 3 = .ok (.if_icmp .lt 9, 3) := by decide +kernel
theorem d21_6 : decode prog_7_method_19_code 6 = .ok (.iload_n 0, 1) := by decide +kernel
theorem d21_7 : decode prog_7_method_19_code 7 = .ok (.bipush 126, 2) := by decide +kernel
theorem d21_9 : decode prog_7_method_19_code 9 = .ok (.if_icmp .le 34, 3) := by decide +kernel
theorem d21_12 : decode prog_7_method_19_code 12 = .ok (.iload_n 0, 1) := by decide +kernel
theorem d21_13 : decode prog_7_method_19_code 13 = .ok (.invokestatic 175, 3) := by decide +kernel
theorem d21_16 : decode prog_7_method_19_code 16 = .ok (.ifCond .ne 23, 3) := by decide +kernel
theorem d21_19 : decode prog_7_method_19_code 19 = .ok (.iload_n 0, 1) := by decide +kernel
theorem d21_20 : decode prog_7_method_19_code 20 = .ok (.invokestatic 180, 3) := by decide +kernel
theorem d21_23 : decode prog_7_method_19_code 23 = .ok (.ifCond .ne 16, 3) := by decide +kernel
theorem d21_26 : decode prog_7_method_19_code 26 = .ok (.iload_n 0, 1) := by decide +kernel
theorem d21_27 : decode prog_7_method_19_code 27 = .ok (.sipush 133, 3) := by decide +kernel
theorem d21_30 : decode prog_7_method_19_code 30 = .ok (.if_icmp .eq 9, 3) := by decide +kernel
theorem d21_33 : decode prog_7_method_19_code 33 = .ok (.iload_n 0, 1) := by decide +kernel
theorem d21_34 : decode prog_7_method_19_code 34 = .ok (.ldc 159, 2) := by decide +kernel
theorem d21_36 : decode prog_7_method_19_code 36 = .ok (.if_icmp .ne 7, 3) := by decide +kernel
theorem d21_39 : decode prog_7_method_19_code 39 = .ok (.iconst 1, 1) := by decide +kernel
theorem d21_40 : decode prog_7_method_19_code 40 = .ok (.goto 4, 3) := by decide +kernel
theorem d21_43 : decode prog_7_method_19_code 43 = .ok (.iconst 0, 1) := by decide +kernel
theorem d21_44 : decode prog_7_method_19_code 44 = .ok (.ireturn, 1) := by decide +kernel
theorem pn_21 : plainName "com/example/fusionutils/fusionutils/Fields" = true := by first | (simp [plainName, overriddenIn]; done) | decide +kernel
theorem ef_rmIB (m : MethodId) (r : Nat) : entryFrame m #[(.int (Int32.ofNat r))] 1 = mkF m 0 #[.val (.int (Int32.ofNat r))] [] := by first | (simp [entryFrame, mkF, argsToLocals, Value.category]; done) | rfl
set_option maxRecDepth 65536 in
set_option maxHeartbeats 40000000 in
theorem rmIB (l : Launch) (Z : State) (a0 : Array Value) (hw : ∀ d ∈ tables_1, d.before a0 Z = true) (r : Nat) (h0 : Heap) (h1 : 33 ≤ r) (h2 : r ≤ 126) :
    Con l Z (⟨"com/example/fusionutils/fusionutils/Fields", "isBarred", "(C)Z"⟩ : MethodName) prog_7_method_19_code 1 (some .boolean) [] ({ frames := 0, cells := 0, slots := 0, locals := 0 } : Room) #[(.int (Int32.ofNat r))] h0 (fun v h L => v = some (.int 0) ∧ h = h0 ∧ L = []) := by
  refine Con.of (plainFor_of_name pn_21) ?_
  intro p e s m below meth c s₁ hx hby hml hown hnm hret hlk hZ X0 e0
  refine Wp.enter (ef_rmIB m r) ?_
  refine W.iloadN X0 hx 1 (hb hby d21_0) rfl rfl ?_
  refine W.bipush X0 hx 3 (33 : Int32) (hb hby d21_1) rfl rfl ?_
  refine W.icmpLt X0 hx 12 6 (hb hby d21_3) (by decide) (by decide) rfl (fun q => ?_) (fun q => ?_)
  · exact absurd q (own_bar r (by omega) h1).1
  · skip
    refine W.iloadN X0 hx 7 (hb hby d21_6) rfl rfl ?_
    refine W.bipush X0 hx 9 (126 : Int32) (hb hby d21_7) rfl rfl ?_
    refine W.icmpLe X0 hx 43 12 (hb hby d21_9) (by decide) (by decide) rfl (fun q => ?_) (fun q => ?_)
    · skip
      refine W.iconst X0 hx 44 (0 : Int32) (hb hby d21_43) rfl rfl ?_
      refine W.nret X0 hx hlk (t := .boolean) hret (by simp) (hb hby d21_44) (by decide) (by decide) ?_
      exact ⟨rfl, e0, rfl⟩
    · exact absurd q (own_bar r (by omega) h1).2
theorem d12_0 : decode prog_7_method_16_code 0 = .ok (.aload_n 0, 1) := by decide +kernel
theorem d12_1 : decode prog_7_method_16_code 1 = .ok (.invokevirtual 153, 3) := by decide +kernel
theorem d12_4 : decode prog_7_method_16_code 4 = .ok (.ifCond .eq 5, 3) := by decide +kernel
theorem d12_7 : decode prog_7_method_16_code 7 = .ok (.iconst 0, 1) := by decide +kernel
theorem d12_8 : decode prog_7_method_16_code 8 = .ok (.ireturn, 1) := by decide +kernel
theorem d12_9 : decode prog_7_method_16_code 9 = .ok (.iconst 0, 1) := by decide +kernel
theorem d12_10 : decode prog_7_method_16_code 10 = .ok (.istore_n 1, 1) := by decide +kernel
theorem d12_11 : decode prog_7_method_16_code 11 = .ok (.iload_n 1, 1) := by decide +kernel
theorem d12_12 : decode prog_7_method_16_code 12 = .ok (.aload_n 0, 1) := by decide +kernel
theorem d12_13 : decode prog_7_method_16_code 13 = .ok (.invokevirtual 66, 3) := by decide +kernel
theorem d12_16 : decode prog_7_method_16_code 16 = .ok (.if_icmp .ge 22, 3) := by decide +kernel
theorem d12_19 : decode prog_7_method_16_code 19 = .ok (.aload_n 0, 1) := by decide +kernel
theorem d12_20 : decode prog_7_method_16_code 20 = .ok (.iload_n 1, 1) := by decide +kernel
theorem d12_21 : decode prog_7_method_16_code 21 = .ok (.invokevirtual 69, 3) := by decide +kernel
theorem d12_24 : decode prog_7_method_16_code 24 = .ok (.invokestatic 156, 3) := by decide +kernel
theorem d12_27 : decode prog_7_method_16_code 27 = .ok (.ifCond .eq 5, 3) := by decide +kernel
theorem d12_30 : decode prog_7_method_16_code 30 = .ok (.iconst 0, 1) := by decide +kernel
theorem d12_31 : decode prog_7_method_16_code 31 = .ok (.ireturn, 1) := by decide +kernel
theorem d12_32 : decode prog_7_method_16_code 32 = .ok (.iinc 1 1, 3) := by decide +kernel
theorem d12_35 : decode prog_7_method_16_code 35 = .ok (.goto (-24), 3) := by decide +kernel
theorem d12_38 : decode prog_7_method_16_code 38 = .ok (.iconst 1, 1) := by decide +kernel
theorem d12_39 : decode prog_7_method_16_code 39 = .ok (.ireturn, 1) := by decide +kernel
theorem pn_12 : plainName "com/example/fusionutils/fusionutils/Fields" = true := by first | (simp [plainName, overriddenIn]; done) | decide +kernel
theorem ef_rmIF (m : MethodId) (o : Addr) : entryFrame m #[(.ref o)] 2 = mkF m 0 #[.val (.ref o), .unset] [] := by first | (simp [entryFrame, mkF, argsToLocals, Value.category]; done) | rfl
set_option maxRecDepth 65536 in
set_option maxHeartbeats 40000000 in
theorem rmIF (l : Launch) (Z : State) (a0 : Array Value) (hw : ∀ d ∈ tables_1, d.before a0 Z = true) (o vb : Addr) (a b : Nat) (fm : Value) (cs : Int32) (h0 : Heap) (I : SV Z h0 o vb a b) (a1 : 33 ≤ a) (a2 : a ≤ 126) (b1 : 33 ≤ b) (b2 : b ≤ 126) (SF : Sta Z h0 "jdk/internal/util/Preconditions" "SIOOBE_FORMATTER" "Ljava/util/function/BiFunction;" fm) (hfm : fm.isRef = true) (SC : Sta Z h0 "java/lang/String" "COMPACT_STRINGS" "Z" (.int cs)) (hcs : ¬ cs = 0) :
    Con l Z (⟨"com/example/fusionutils/fusionutils/Fields", "isField", "(Ljava/lang/String;)Z"⟩ : MethodName) prog_7_method_16_code 2 (some .boolean) [] ({ frames := 4, cells := 0, slots := 0, locals := 53 } : Room) #[(.ref o)] h0 (fun v h L => v = some (.int 1) ∧ h = h0 ∧ L = []) := by
  refine Con.of (plainFor_of_name pn_12) ?_
  intro p e s m below meth c s₁ hx hby hml hown hnm hret hlk hZ X0 e0
  refine Wp.enter (ef_rmIF m o) ?_
  refine W.aloadN X0 hx 1 (hb hby d12_0) rfl rfl rfl ?_
  refine W.callV X0 hx hZ 4 0 o [] hown (hw _ (List.mem_of_getElem? (i := 61) rfl)) (hw _ (List.mem_of_getElem? (i := 62) rfl)) (hw _ (List.mem_of_getElem? (i := 64) rfl)) (hw _ (List.mem_of_getElem? (i := 63) rfl)) (hw _ (List.mem_of_getElem? (i := 11) rfl)) (hw _ (List.mem_of_getElem? (i := 65) rfl)) (by decide) pd_7 rfl e0 I.1 (rmIE l Z a0 hw o vb a b h0 I) (hb hby d12_1) (by rw [hml]; rfl) rfl rfl (by decide) (by decide) (by decide) (by decide) rfl ?_
  rintro v1 T1 L1 X1 ⟨rfl, e1, rfl⟩
  refine W.ifEq X1 hx 9 7 (hb hby d12_4) (by decide) (by decide) rfl (fun q => ?_) (fun q => ?_)
  · skip
    refine W.iconst X1 hx 10 (0 : Int32) (hb hby d12_9) rfl rfl ?_
    refine W.istoreN X1 hx 11 #[.val (.ref o), .val (.int (0 : Int32))] (hb hby d12_10) rfl rfl ?_
    refine W.iloadN X1 hx 12 (hb hby d12_11) rfl rfl ?_
    refine W.aloadN X1 hx 13 (hb hby d12_12) rfl rfl rfl ?_
    refine W.callV X1 hx hZ 16 1 o [] hown (hw _ (List.mem_of_getElem? (i := 66) rfl)) (hw _ (List.mem_of_getElem? (i := 67) rfl)) (hw _ (List.mem_of_getElem? (i := 69) rfl)) (hw _ (List.mem_of_getElem? (i := 68) rfl)) (hw _ (List.mem_of_getElem? (i := 11) rfl)) (hw _ (List.mem_of_getElem? (i := 70) rfl)) (by decide) pd_9 rfl e1 I.1 (rmLe l Z a0 hw o vb a b cs h0 I SC hcs) (hb hby d12_13) (by rw [hml]; rfl) rfl rfl (by decide) (by decide) (by decide) (by decide) rfl ?_
    rintro v2 T2 L2 X2 ⟨rfl, e2, rfl⟩
    refine W.icmpGe X2 hx 38 19 (hb hby d12_16) (by decide) (by decide) rfl (fun q => ?_) (fun q => ?_)
    · exact absurd (by decide) q
    · skip
      refine W.aloadN X2 hx 20 (hb hby d12_19) rfl rfl rfl ?_
      refine W.iloadN X2 hx 21 (hb hby d12_20) rfl rfl ?_
      refine W.callV X2 hx hZ 24 0 o [(.int (0 : Int32))] hown (hw _ (List.mem_of_getElem? (i := 76) rfl)) (hw _ (List.mem_of_getElem? (i := 77) rfl)) (hw _ (List.mem_of_getElem? (i := 79) rfl)) (hw _ (List.mem_of_getElem? (i := 78) rfl)) (hw _ (List.mem_of_getElem? (i := 11) rfl)) (hw _ (List.mem_of_getElem? (i := 80) rfl)) (by decide) pd_10 rfl e2 I.1 (rmCA l Z a0 hw o vb (0 : Int32) 0 a b a fm cs h0 I (by decide) (by decide) rfl a2 SF hfm SC hcs) (hb hby d12_21) (by rw [hml]; rfl) rfl rfl (by decide) (by decide) (by decide) (by decide) rfl ?_
      rintro v3 T3 L3 X3 ⟨rfl, e3, rfl⟩
      refine W.callS X3 hx hZ 27 0 [(.int (Int32.ofNat a))] hown (hw _ (List.mem_of_getElem? (i := 98) rfl)) (hw _ (List.mem_of_getElem? (i := 99) rfl)) (hw _ (List.mem_of_getElem? (i := 52) rfl)) (hw _ (List.mem_of_getElem? (i := 100) rfl)) (by decide) pd_11 rfl e3 (rmIB l Z a0 hw a h0 a1 a2) (hb hby d12_24) (by rw [hml]; rfl) rfl rfl (by decide) (by decide) (by decide) (by decide) rfl ?_
      rintro v4 T4 L4 X4 ⟨rfl, e4, rfl⟩
      refine W.ifEq X4 hx 32 30 (hb hby d12_27) (by decide) (by decide) rfl (fun q => ?_) (fun q => ?_)
      · skip
        refine W.iinc X4 hx 35 (1 : Int32) #[.val (.ref o), .val (.int ((0 : Int32) + (1 : Int32)))] (hb hby d12_32) rfl rfl rfl rfl ?_
        refine W.goto X4 hx 11 (hb hby d12_35) (by decide) (by decide) ?_
        refine W.iloadN X4 hx 12 (hb hby d12_11) rfl rfl ?_
        refine W.aloadN X4 hx 13 (hb hby d12_12) rfl rfl rfl ?_
        refine W.callV X4 hx hZ 16 1 o [] hown (hw _ (List.mem_of_getElem? (i := 66) rfl)) (hw _ (List.mem_of_getElem? (i := 67) rfl)) (hw _ (List.mem_of_getElem? (i := 69) rfl)) (hw _ (List.mem_of_getElem? (i := 68) rfl)) (hw _ (List.mem_of_getElem? (i := 11) rfl)) (hw _ (List.mem_of_getElem? (i := 70) rfl)) (by decide) pd_9 rfl e4 I.1 (rmLe l Z a0 hw o vb a b cs h0 I SC hcs) (hb hby d12_13) (by rw [hml]; rfl) rfl rfl (by decide) (by decide) (by decide) (by decide) rfl ?_
        rintro v5 T5 L5 X5 ⟨rfl, e5, rfl⟩
        refine W.icmpGe X5 hx 38 19 (hb hby d12_16) (by decide) (by decide) rfl (fun q => ?_) (fun q => ?_)
        · exact absurd (by decide) q
        · skip
          refine W.aloadN X5 hx 20 (hb hby d12_19) rfl rfl rfl ?_
          refine W.iloadN X5 hx 21 (hb hby d12_20) rfl rfl ?_
          refine W.callV X5 hx hZ 24 0 o [(.int ((0 : Int32) + (1 : Int32)))] hown (hw _ (List.mem_of_getElem? (i := 76) rfl)) (hw _ (List.mem_of_getElem? (i := 77) rfl)) (hw _ (List.mem_of_getElem? (i := 79) rfl)) (hw _ (List.mem_of_getElem? (i := 78) rfl)) (hw _ (List.mem_of_getElem? (i := 11) rfl)) (hw _ (List.mem_of_getElem? (i := 80) rfl)) (by decide) pd_10 rfl e5 I.1 (rmCA l Z a0 hw o vb ((0 : Int32) + (1 : Int32)) 1 a b b fm cs h0 I (by decide) (by decide) rfl b2 SF hfm SC hcs) (hb hby d12_21) (by rw [hml]; rfl) rfl rfl (by decide) (by decide) (by decide) (by decide) rfl ?_
          rintro v6 T6 L6 X6 ⟨rfl, e6, rfl⟩
          refine W.callS X6 hx hZ 27 0 [(.int (Int32.ofNat b))] hown (hw _ (List.mem_of_getElem? (i := 98) rfl)) (hw _ (List.mem_of_getElem? (i := 99) rfl)) (hw _ (List.mem_of_getElem? (i := 52) rfl)) (hw _ (List.mem_of_getElem? (i := 100) rfl)) (by decide) pd_11 rfl e6 (rmIB l Z a0 hw b h0 b1 b2) (hb hby d12_24) (by rw [hml]; rfl) rfl rfl (by decide) (by decide) (by decide) (by decide) rfl ?_
          rintro v7 T7 L7 X7 ⟨rfl, e7, rfl⟩
          refine W.ifEq X7 hx 32 30 (hb hby d12_27) (by decide) (by decide) rfl (fun q => ?_) (fun q => ?_)
          · skip
            refine W.iinc X7 hx 35 (1 : Int32) #[.val (.ref o), .val (.int (((0 : Int32) + (1 : Int32)) + (1 : Int32)))] (hb hby d12_32) rfl rfl rfl rfl ?_
            refine W.goto X7 hx 11 (hb hby d12_35) (by decide) (by decide) ?_
            refine W.iloadN X7 hx 12 (hb hby d12_11) rfl rfl ?_
            refine W.aloadN X7 hx 13 (hb hby d12_12) rfl rfl rfl ?_
            refine W.callV X7 hx hZ 16 1 o [] hown (hw _ (List.mem_of_getElem? (i := 66) rfl)) (hw _ (List.mem_of_getElem? (i := 67) rfl)) (hw _ (List.mem_of_getElem? (i := 69) rfl)) (hw _ (List.mem_of_getElem? (i := 68) rfl)) (hw _ (List.mem_of_getElem? (i := 11) rfl)) (hw _ (List.mem_of_getElem? (i := 70) rfl)) (by decide) pd_9 rfl e7 I.1 (rmLe l Z a0 hw o vb a b cs h0 I SC hcs) (hb hby d12_13) (by rw [hml]; rfl) rfl rfl (by decide) (by decide) (by decide) (by decide) rfl ?_
            rintro v8 T8 L8 X8 ⟨rfl, e8, rfl⟩
            refine W.icmpGe X8 hx 38 19 (hb hby d12_16) (by decide) (by decide) rfl (fun q => ?_) (fun q => ?_)
            · skip
              refine W.iconst X8 hx 39 (1 : Int32) (hb hby d12_38) rfl rfl ?_
              refine W.nret X8 hx hlk (t := .boolean) hret (by simp) (hb hby d12_39) (by decide) (by decide) ?_
              exact ⟨rfl, e8, rfl⟩
            · exact absurd q (by decide)
          · exact absurd rfl q
      · exact absurd rfl q
  · exact absurd rfl q
theorem d11_0 : decode jdk_31_method_11_code 0 = .ok (.aload_n 0, 1) := by decide +kernel
theorem d11_1 : decode jdk_31_method_11_code 1 = .ok (.ifnonnull 12, 3) := by decide +kernel
theorem d11_4 : decode jdk_31_method_11_code 4 = .ok (.new 84, 3) := by decide +kernel
theorem d11_7 : decode jdk_31_method_11_code 7 = .ok (.dup, 1) := by decide +kernel
theorem d11_8 : decode jdk_31_method_11_code 8 = .ok (.aload_n 1, 1) := by decide +kernel
theorem d11_9 : decode jdk_31_method_11_code 9 = .ok (.invokespecial 87, 3) := by decide +kernel
theorem d11_12 : decode jdk_31_method_11_code 12 = .ok (.athrow, 1) := by decide +kernel
theorem d11_13 : decode jdk_31_method_11_code 13 = .ok (.aload_n 0, 1) := by decide +kernel
theorem d11_14 : decode jdk_31_method_11_code 14 = .ok (.areturn, 1) := by decide +kernel
theorem ef_rmRN (m : MethodId) (o : Addr) (mm : Addr) : entryFrame m #[(.ref o), (.ref mm)] 2 = mkF m 0 #[.val (.ref o), .val (.ref mm)] [] := by first | (simp [entryFrame, mkF, argsToLocals, Value.category]; done) | rfl
set_option maxRecDepth 65536 in
set_option maxHeartbeats 40000000 in
theorem rmRN (l : Launch) (Z : State) (a0 : Array Value) (hw : ∀ d ∈ tables_1, d.before a0 Z = true) (o mm : Addr) (h0 : Heap)  :
    Con l Z (⟨"java/util/Objects", "requireNonNull", "(Ljava/lang/Object;Ljava/lang/String;)Ljava/lang/Object;"⟩ : MethodName) jdk_31_method_11_code 2 (some (.object "java/lang/Object")) [] ({ frames := 0, cells := 0, slots := 0, locals := 0 } : Room) #[(.ref o), (.ref mm)] h0 (fun v h L => v = some (.ref o) ∧ h = h0 ∧ L = []) := by
  refine Con.of (by decide +kernel) ?_
  intro p e s m below meth c s₁ hx hby hml hown hnm hret hlk hZ X0 e0
  refine Wp.enter (ef_rmRN m o mm) ?_
  refine W.aloadN X0 hx 1 (hb hby d11_0) rfl rfl rfl ?_
  refine W.nonnullR X0 hx 13 (hb hby d11_1) (by decide) (by decide) ?_
  refine W.aloadN X0 hx 14 (hb hby d11_13) rfl rfl rfl ?_
  refine W.aret X0 hx hlk hret rfl rfl (hb hby d11_14) (by decide) (by decide) ?_
  exact ⟨rfl, e0, rfl⟩
theorem d10_0 : decode prog_7_method_10_code 0 = .ok (.aload_n 0, 1) := by decide +kernel
theorem d10_1 : decode prog_7_method_10_code 1 = .ok (.aload_n 1, 1) := by decide +kernel
theorem d10_2 : decode prog_7_method_10_code 2 = .ok (.invokestatic 74, 3) := by decide +kernel
theorem d10_5 : decode prog_7_method_10_code 5 = .ok (.pop, 1) := by decide +kernel
theorem d10_6 : decode prog_7_method_10_code 6 = .ok (.aload_n 0, 1) := by decide +kernel
theorem d10_7 : decode prog_7_method_10_code 7 = .ok (.invokestatic 80, 3) := by decide +kernel
theorem d10_10 : decode prog_7_method_10_code 10 = .ok (.ifCond .ne 18, 3) := by decide +kernel
theorem d10_13 : decode prog_7_method_10_code 13 = .ok (.new 84, 3) := by decide +kernel
theorem d10_16 : decode prog_7_method_10_code 16 = .ok (.dup, 1) := by decide +kernel
theorem d10_17 : decode prog_7_method_10_code 17 = .ok (.aload_n 1, 1) := by decide +kernel
theorem d10_18 : decode prog_7_method_10_code 18 = .ok (.aload_n 0, 1) := by decide +kernel
theorem d10_19 : decode prog_7_method_10_code 19 = .ok (.invokedynamic 86, 5) := by decide +kernel
theorem d10_24 : decode prog_7_method_10_code 24 = .ok (.invokespecial 89, 3) := by decide +kernel
theorem d10_27 : decode prog_7_method_10_code 27 = .ok (.athrow, 1) := by decide +kernel
theorem d10_28 : decode prog_7_method_10_code 28 = .ok (.return_, 1) := by decide +kernel
theorem pn_10 : plainName "com/example/fusionutils/fusionutils/Fields" = true := by first | (simp [plainName, overriddenIn]; done) | decide +kernel
theorem ef_rmRI (m : MethodId) (o : Addr) (mm : Addr) : entryFrame m #[(.ref o), (.ref mm)] 2 = mkF m 0 #[.val (.ref o), .val (.ref mm)] [] := by first | (simp [entryFrame, mkF, argsToLocals, Value.category]; done) | rfl
set_option maxRecDepth 65536 in
set_option maxHeartbeats 40000000 in
theorem rmRI (l : Launch) (Z : State) (a0 : Array Value) (hw : ∀ d ∈ tables_1, d.before a0 Z = true) (o mm vb : Addr) (a b : Nat) (fm : Value) (cs : Int32) (h0 : Heap) (I : SV Z h0 o vb a b) (a1 : 33 ≤ a) (a2 : a ≤ 126) (b1 : 33 ≤ b) (b2 : b ≤ 126) (SF : Sta Z h0 "jdk/internal/util/Preconditions" "SIOOBE_FORMATTER" "Ljava/util/function/BiFunction;" fm) (hfm : fm.isRef = true) (SC : Sta Z h0 "java/lang/String" "COMPACT_STRINGS" "Z" (.int cs)) (hcs : ¬ cs = 0) :
    Con l Z (⟨"com/example/fusionutils/fusionutils/Fields", "requireId", "(Ljava/lang/String;Ljava/lang/String;)V"⟩ : MethodName) prog_7_method_10_code 2 none [] ({ frames := 5, cells := 0, slots := 0, locals := 66 } : Room) #[(.ref o), (.ref mm)] h0 (fun v h L => v = none ∧ h = h0 ∧ L = []) := by
  refine Con.of (plainFor_of_name pn_10) ?_
  intro p e s m below meth c s₁ hx hby hml hown hnm hret hlk hZ X0 e0
  refine Wp.enter (ef_rmRI m o mm) ?_
  refine W.aloadN X0 hx 1 (hb hby d10_0) rfl rfl rfl ?_
  refine W.aloadN X0 hx 2 (hb hby d10_1) rfl rfl rfl ?_
  refine W.callS X0 hx hZ 5 0 [(.ref o), (.ref mm)] hown (hw _ (List.mem_of_getElem? (i := 54) rfl)) (hw _ (List.mem_of_getElem? (i := 55) rfl)) (hw _ (List.mem_of_getElem? (i := 56) rfl)) (hw _ (List.mem_of_getElem? (i := 57) rfl)) (by decide) pd_12 rfl e0 (rmRN l Z a0 hw o mm h0) (hb hby d10_2) (by rw [hml]; rfl) rfl rfl (by decide) (by decide) (by decide) (by decide) rfl ?_
  rintro v1 T1 L1 X1 ⟨rfl, e1, rfl⟩
  refine W.pop1 X1 hx 6 (hb hby d10_5) rfl rfl ?_
  refine W.aloadN X1 hx 7 (hb hby d10_6) rfl rfl rfl ?_
  refine W.callS X1 hx hZ 10 0 [(.ref o)] hown (hw _ (List.mem_of_getElem? (i := 58) rfl)) (hw _ (List.mem_of_getElem? (i := 59) rfl)) (hw _ (List.mem_of_getElem? (i := 52) rfl)) (hw _ (List.mem_of_getElem? (i := 60) rfl)) (by decide) pd_13 rfl e1 (rmIF l Z a0 hw o vb a b fm cs h0 I a1 a2 b1 b2 SF hfm SC hcs) (hb hby d10_7) (by rw [hml]; rfl) rfl rfl (by decide) (by decide) (by decide) (by decide) rfl ?_
  rintro v2 T2 L2 X2 ⟨rfl, e2, rfl⟩
  refine W.ifNe X2 hx 28 13 (hb hby d10_10) (by decide) (by decide) rfl (fun q => ?_) (fun q => ?_)
  · skip
    refine W.vret X2 hx hlk hret (hb hby d10_28) (by decide) (by decide) ?_
    exact ⟨rfl, e2, rfl⟩
  · exact absurd q (by decide)
theorem d9_0 : decode jdk_30_method_1_code 0 = .ok (.aload_n 0, 1) := by decide +kernel
theorem d9_1 : decode jdk_30_method_1_code 1 = .ok (.invokespecial 1, 3) := by decide +kernel
theorem d9_4 : decode jdk_30_method_1_code 4 = .ok (.return_, 1) := by decide +kernel
theorem ef_rmRe (m : MethodId) (o : Addr) : entryFrame m #[(.ref o)] 1 = mkF m 0 #[.val (.ref o)] [] := by first | (simp [entryFrame, mkF, argsToLocals, Value.category]; done) | rfl
set_option maxRecDepth 65536 in
set_option maxHeartbeats 40000000 in
theorem rmRe (l : Launch) (Z : State) (a0 : Array Value) (hw : ∀ d ∈ tables_1, d.before a0 Z = true) (o : Addr) (h0 : Heap)  :
    Con l Z (⟨"java/lang/Record", "<init>", "()V"⟩ : MethodName) jdk_30_method_1_code 1 none [] ({ frames := 1, cells := 0, slots := 0, locals := 12 } : Room) #[(.ref o)] h0 (fun v h L => v = none ∧ h = h0 ∧ L = []) := by
  refine Con.of (by decide +kernel) ?_
  intro p e s m below meth c s₁ hx hby hml hown hnm hret hlk hZ X0 e0
  refine Wp.enter (ef_rmRe m o) ?_
  refine W.aloadN X0 hx 1 (hb hby d9_0) rfl rfl rfl ?_
  refine W.initO X0 hx hZ 4 0 hown (hw _ (List.mem_of_getElem? (i := 46) rfl)) (hw _ (List.mem_of_getElem? (i := 20) rfl)) (hw _ (List.mem_of_getElem? (i := 21) rfl)) e0 (by rw [hml]; rfl) (hb hby d9_1) (by decide) rfl (by decide) rfl ?_
  intro T1 X1 e1
  refine W.vret X1 hx hlk hret (hb hby d9_4) (by decide) (by decide) ?_
  exact ⟨rfl, e1, rfl⟩
theorem d22_0 : decode prog_17_method_3_code 0 = .ok (.aload_n 0, 1) := by decide +kernel
theorem d22_1 : decode prog_17_method_3_code 1 = .ok (.getfield 24, 3) := by decide +kernel
theorem d22_4 : decode prog_17_method_3_code 4 = .ok (.ifCond .le 7, 3) := by decide +kernel
theorem d22_7 : decode prog_17_method_3_code 7 = .ok (.iconst 1, 1) := by decide +kernel
theorem d22_8 : decode prog_17_method_3_code 8 = .ok (.goto 4, 3) := by decide +kernel
theorem d22_11 : decode prog_17_method_3_code 11 = .ok (.iconst 0, 1) := by decide +kernel
theorem d22_12 : decode prog_17_method_3_code 12 = .ok (.ireturn, 1) := by decide +kernel
theorem pn_22 : plainName "com/example/fusionutils/fusionutils/Judgement" = true := by first | (simp [plainName, overriddenIn]; done) | decide +kernel
theorem ef_rmIR (m : MethodId) (o : Addr) : entryFrame m #[(.ref o)] 1 = mkF m 0 #[.val (.ref o)] [] := by first | (simp [entryFrame, mkF, argsToLocals, Value.category]; done) | rfl
set_option maxRecDepth 65536 in
set_option maxHeartbeats 40000000 in
theorem rmIR (l : Launch) (Z : State) (a0 : Array Value) (hw : ∀ d ∈ tables_1, d.before a0 Z = true) (o : Addr) (r : Int32) (h0 : Heap) (F : Fld Z h0 o "com/example/fusionutils/fusionutils/Judgement" "relevance" "I" (.int r)) :
    Con l Z (⟨"com/example/fusionutils/fusionutils/Judgement", "isRelevant", "()Z"⟩ : MethodName) prog_17_method_3_code 1 (some .boolean) [] ({ frames := 0, cells := 0, slots := 0, locals := 0 } : Room) #[(.ref o)] h0 (fun v h L => v = some (.int (if 0 < r then 1 else 0)) ∧ h = h0 ∧ L = []) := by
  refine Con.of (plainFor_of_name pn_22) ?_
  intro p e s m below meth c s₁ hx hby hml hown hnm hret hlk hZ X0 e0
  refine Wp.enter (ef_rmIR m o) ?_
  refine W.aloadN X0 hx 1 (hb hby d22_0) rfl rfl rfl ?_
  refine W.getF X0 hx hZ 4 hown (hw _ (List.mem_of_getElem? (i := 106) rfl)) Via.refl e0 F (hb hby d22_1) rfl ?_
  intro T1 X1 e1
  refine W.ifLe X1 hx 11 7 (hb hby d22_4) (by decide) (by decide) rfl (fun q => ?_) (fun q => ?_)
  · skip
    refine W.iconst X1 hx 12 (0 : Int32) (hb hby d22_11) rfl rfl ?_
    refine W.nret X1 hx hlk (t := .boolean) hret (by simp) (hb hby d22_12) (by decide) (by decide) ?_
    exact ⟨by rw [if_neg q]; rfl, e1, rfl⟩
  · skip
    refine W.iconst X1 hx 8 (1 : Int32) (hb hby d22_7) rfl rfl ?_
    refine W.goto X1 hx 12 (hb hby d22_8) (by decide) (by decide) ?_
    refine W.nret X1 hx hlk (t := .boolean) hret (by simp) (hb hby d22_12) (by decide) (by decide) ?_
    exact ⟨by rw [if_pos q]; rfl, e1, rfl⟩
theorem d23_0 : decode prog_17_method_10_code 0 = .ok (.aload_n 0, 1) := by decide +kernel
theorem d23_1 : decode prog_17_method_10_code 1 = .ok (.getfield 24, 3) := by decide +kernel
theorem d23_4 : decode prog_17_method_10_code 4 = .ok (.ireturn, 1) := by decide +kernel
theorem pn_23 : plainName "com/example/fusionutils/fusionutils/Judgement" = true := by first | (simp [plainName, overriddenIn]; done) | decide +kernel
theorem ef_rmRl (m : MethodId) (o : Addr) : entryFrame m #[(.ref o)] 1 = mkF m 0 #[.val (.ref o)] [] := by first | (simp [entryFrame, mkF, argsToLocals, Value.category]; done) | rfl
set_option maxRecDepth 65536 in
set_option maxHeartbeats 40000000 in
theorem rmRl (l : Launch) (Z : State) (a0 : Array Value) (hw : ∀ d ∈ tables_1, d.before a0 Z = true) (o : Addr) (r : Int32) (h0 : Heap) (F : Fld Z h0 o "com/example/fusionutils/fusionutils/Judgement" "relevance" "I" (.int r)) :
    Con l Z (⟨"com/example/fusionutils/fusionutils/Judgement", "relevance", "()I"⟩ : MethodName) prog_17_method_10_code 1 (some .int) [] ({ frames := 0, cells := 0, slots := 0, locals := 0 } : Room) #[(.ref o)] h0 (fun v h L => v = some (.int r) ∧ h = h0 ∧ L = []) := by
  refine Con.of (plainFor_of_name pn_23) ?_
  intro p e s m below meth c s₁ hx hby hml hown hnm hret hlk hZ X0 e0
  refine Wp.enter (ef_rmRl m o) ?_
  refine W.aloadN X0 hx 1 (hb hby d23_0) rfl rfl rfl ?_
  refine W.getF X0 hx hZ 4 hown (hw _ (List.mem_of_getElem? (i := 106) rfl)) Via.refl e0 F (hb hby d23_1) rfl ?_
  intro T1 X1 e1
  refine W.iret X1 hx hlk hret (hb hby d23_4) (by decide) (by decide) ?_
  exact ⟨rfl, e1, rfl⟩
theorem d8_0 : decode prog_17_method_1_code 0 = .ok (.aload_n 0, 1) := by decide +kernel
theorem d8_1 : decode prog_17_method_1_code 1 = .ok (.invokespecial 1, 3) := by decide +kernel
theorem d8_4 : decode prog_17_method_1_code 4 = .ok (.aload_n 1, 1) := by decide +kernel
theorem d8_5 : decode prog_17_method_1_code 5 = .ok (.ldc 7, 2) := by decide +kernel
theorem d8_7 : decode prog_17_method_1_code 7 = .ok (.invokestatic 9, 3) := by decide +kernel
theorem d8_10 : decode prog_17_method_1_code 10 = .ok (.aload_n 2, 1) := by decide +kernel
theorem d8_11 : decode prog_17_method_1_code 11 = .ok (.ldc 15, 2) := by decide +kernel
theorem d8_13 : decode prog_17_method_1_code 13 = .ok (.invokestatic 9, 3) := by decide +kernel
theorem d8_16 : decode prog_17_method_1_code 16 = .ok (.aload_n 0, 1) := by decide +kernel
theorem d8_17 : decode prog_17_method_1_code 17 = .ok (.aload_n 1, 1) := by decide +kernel
theorem d8_18 : decode prog_17_method_1_code 18 = .ok (.putfield 17, 3) := by decide +kernel
theorem d8_21 : decode prog_17_method_1_code 21 = .ok (.aload_n 0, 1) := by decide +kernel
theorem d8_22 : decode prog_17_method_1_code 22 = .ok (.aload_n 2, 1) := by decide +kernel
theorem d8_23 : decode prog_17_method_1_code 23 = .ok (.putfield 22, 3) := by decide +kernel
theorem d8_26 : decode prog_17_method_1_code 26 = .ok (.aload_n 0, 1) := by decide +kernel
theorem d8_27 : decode prog_17_method_1_code 27 = .ok (.iload_n 3, 1) := by decide +kernel
theorem d8_28 : decode prog_17_method_1_code 28 = .ok (.putfield 24, 3) := by decide +kernel
theorem d8_31 : decode prog_17_method_1_code 31 = .ok (.return_, 1) := by decide +kernel
theorem pn_8 : plainName "com/example/fusionutils/fusionutils/Judgement" = true := by first | (simp [plainName, overriddenIn]; done) | decide +kernel
theorem ef_rmJ (m : MethodId) (o : Addr) (t : Addr) (d : Addr) (rv : Int32) : entryFrame m #[(.ref o), (.ref t), (.ref d), (.int rv)] 4 = mkF m 0 #[.val (.ref o), .val (.ref t), .val (.ref d), .val (.int rv)] [] := by first | (simp [entryFrame, mkF, argsToLocals, Value.category]; done) | rfl
set_option maxRecDepth 65536 in
set_option maxHeartbeats 40000000 in
theorem rmJ (l : Launch) (Z : State) (a0 : Array Value) (hw : ∀ d ∈ tables_1, d.before a0 Z = true) (o t d vt vd : Addr) (rv : Int32) (a b a' b' : Nat) (fm : Value) (cs : Int32) (h0 : Heap) (n0 : Nat) (Z0 : n0 ≤ h0.size) (E : Exa Z h0 o "com/example/fusionutils/fusionutils/Judgement") (F1 : Fld Z h0 o "com/example/fusionutils/fusionutils/Judgement" "topic" "Ljava/lang/String;" .null) (F2 : Fld Z h0 o "com/example/fusionutils/fusionutils/Judgement" "document" "Ljava/lang/String;" .null) (F3 : Fld Z h0 o "com/example/fusionutils/fusionutils/Judgement" "relevance" "I" (.int 0)) (It : SV Z h0 t vt a b) (Id : SV Z h0 d vd a' b') (a1 : 33 ≤ a) (a2 : a ≤ 126) (b1 : 33 ≤ b) (b2 : b ≤ 126) (a1' : 33 ≤ a') (a2' : a' ≤ 126) (b1' : 33 ≤ b') (b2' : b' ≤ 126) (SF : Sta Z h0 "jdk/internal/util/Preconditions" "SIOOBE_FORMATTER" "Ljava/util/function/BiFunction;" fm) (hfm : fm.isRef = true) (SC : Sta Z h0 "java/lang/String" "COMPACT_STRINGS" "Z" (.int cs)) (hcs : ¬ cs = 0) (ge_o : n0 ≤ o) :
    ConV l Z (⟨"com/example/fusionutils/fusionutils/Judgement", "<init>", "(Ljava/lang/String;Ljava/lang/String;I)V"⟩ : MethodName) prog_17_method_1_code 4 none [] ({ frames := 6, cells := 4, slots := 60, locals := 79 } : Room) #[(.ref o), (.ref t), (.ref d), (.int rv)] h0 (fun v h L => v = none ∧ Fr n0 L ∧ h0.size ≤ h.size ∧ Exa Z h o "com/example/fusionutils/fusionutils/Judgement" ∧ Fld Z h o "com/example/fusionutils/fusionutils/Judgement" "relevance" "I" (.int rv)) := by
  refine ConV.of (plainFor_of_name pn_8) ?_
  intro p e s m below meth c s₁ hx hby hml hown hnm hret hlk hZ X0 e0 hS
  refine WpV.enter (ef_rmJ m o t d rv) ?_
  have hz : h0.size ≤ h0.size := Nat.le_refl _
  refine V.aloadN X0 hx 1 (hb hby d8_0) rfl rfl rfl ?_
  refine V.callI X0 hx hZ 4 0 o [] rfl hown (hw _ (List.mem_of_getElem? (i := 41) rfl)) (hw _ (List.mem_of_getElem? (i := 42) rfl)) (hw _ (List.mem_of_getElem? (i := 44) rfl)) (hw _ (List.mem_of_getElem? (i := 45) rfl)) (by decide) pd_14 rfl e0 (rmRe l Z a0 hw o h0) (hb hby d8_1) (by rw [hml]; rfl) rfl rfl (by decide) (by decide) (by decide) (by decide) rfl ?_
  rintro v1 T1 L1 X1 ⟨rfl, e1, rfl⟩
  refine V.aloadN X1 hx 5 (hb hby d8_4) rfl rfl rfl ?_
  refine V.ldcS X1 hx hZ 7 20 hown (hw _ (List.mem_of_getElem? (i := 47) rfl)) (own_wS hw) e1 hS (Nat.zero_le _) (hb hby d8_5) (by decide +kernel) (by decide) (by decide) (by decide) rfl ?_
  intro l2 T2 h2 k2 X2 e2 E2 hS hk hZ hown
  have E := E.ext E2
  have F1 := F1.ext E2
  have F2 := F2.ext E2
  have F3 := F3.ext E2
  have It := It.ext E2
  have Id := Id.ext E2
  have SF := SF.ext E2
  have SC := SC.ext E2
  have z2 : n0 ≤ h2.size := Nat.le_trans Z0 E2.1
  have hz := Nat.le_trans hz E2.1
  refine V.callS X2 hx hZ 10 0 [(.ref t), (.ref l2)] hown (hw _ (List.mem_of_getElem? (i := 50) rfl)) (hw _ (List.mem_of_getElem? (i := 51) rfl)) (hw _ (List.mem_of_getElem? (i := 52) rfl)) (hw _ (List.mem_of_getElem? (i := 53) rfl)) (by decide) pd_15 rfl e2 (rmRI l Z a0 hw t l2 vt a b fm cs h2 It a1 a2 b1 b2 SF hfm SC hcs) (hb hby d8_7) (by rw [hml]; rfl) rfl rfl (by decide) (by decide) (by decide) (by decide) rfl ?_
  rintro v3 T3 L3 X3 ⟨rfl, e3, rfl⟩
  refine V.aloadN X3 hx 11 (hb hby d8_10) rfl rfl rfl ?_
  refine V.ldcS X3 hx hZ 13 32 hown (hw _ (List.mem_of_getElem? (i := 101) rfl)) (own_wS hw) e3 hS hk (hb hby d8_11) (by decide +kernel) (by decide) (by decide) (by decide) rfl ?_
  intro l4 T4 h4 k4 X4 e4 E4 hS hk hZ hown
  have E := E.ext E4
  have F1 := F1.ext E4
  have F2 := F2.ext E4
  have F3 := F3.ext E4
  have It := It.ext E4
  have Id := Id.ext E4
  have SF := SF.ext E4
  have SC := SC.ext E4
  have z4 : n0 ≤ h4.size := Nat.le_trans z2 E4.1
  have hz := Nat.le_trans hz E4.1
  refine V.callS X4 hx hZ 16 0 [(.ref d), (.ref l4)] hown (hw _ (List.mem_of_getElem? (i := 50) rfl)) (hw _ (List.mem_of_getElem? (i := 51) rfl)) (hw _ (List.mem_of_getElem? (i := 52) rfl)) (hw _ (List.mem_of_getElem? (i := 53) rfl)) (by decide) pd_15 rfl e4 (rmRI l Z a0 hw d l4 vd a' b' fm cs h4 Id a1' a2' b1' b2' SF hfm SC hcs) (hb hby d8_13) (by rw [hml]; rfl) rfl rfl (by decide) (by decide) (by decide) (by decide) rfl ?_
  rintro v5 T5 L5 X5 ⟨rfl, e5, rfl⟩
  refine V.aloadN X5 hx 17 (hb hby d8_16) rfl rfl rfl ?_
  refine V.aloadN X5 hx 18 (hb hby d8_17) rfl rfl rfl ?_
  refine V.putF X5 hx hZ 21 hown (hw _ (List.mem_of_getElem? (i := 102) rfl)) Via.refl e5 F1 E (Or.inr ⟨(hw _ (List.mem_of_getElem? (i := 103) rfl)), rfl, hnm⟩) (hw _ (List.mem_of_getElem? (i := 7) rfl)) (ty := (.object "java/lang/String")) (by decide) rfl rfl (hb hby d8_18) rfl ?_
  intro T6 h6 X6 e6 W6 F1
  have E := E.wr W6
  have F2 := Fld.other W6 F2 (Or.inr (slot_ne (Or.inr (hw _ (List.mem_of_getElem? (i := 105) rfl))) (Or.inr (hw _ (List.mem_of_getElem? (i := 103) rfl))) (by decide) (t := (.object "java/lang/String")) (t' := (.object "java/lang/String")) (by decide) (by decide)))
  have F3 := Fld.other W6 F3 (Or.inr (slot_ne (Or.inr (hw _ (List.mem_of_getElem? (i := 107) rfl))) (Or.inr (hw _ (List.mem_of_getElem? (i := 103) rfl))) (by decide) (t := .int) (t' := (.object "java/lang/String")) (by decide) (by decide)))
  have z6 : n0 ≤ h6.size := by rw [W6.size]; exact z4
  have hk : k4 ≤ h6.size := by rw [W6.size]; exact hk
  have hz : h0.size ≤ h6.size := by rw [W6.size]; exact hz
  refine V.aloadN X6 hx 22 (hb hby d8_21) rfl rfl rfl ?_
  refine V.aloadN X6 hx 23 (hb hby d8_22) rfl rfl rfl ?_
  refine V.putF X6 hx hZ 26 hown (hw _ (List.mem_of_getElem? (i := 104) rfl)) Via.refl e6 F2 E (Or.inr ⟨(hw _ (List.mem_of_getElem? (i := 105) rfl)), rfl, hnm⟩) (hw _ (List.mem_of_getElem? (i := 7) rfl)) (ty := (.object "java/lang/String")) (by decide) rfl rfl (hb hby d8_23) rfl ?_
  intro T7 h7 X7 e7 W7 F2
  have E := E.wr W7
  have F1 := Fld.other W7 F1 (Or.inr (slot_ne (Or.inr (hw _ (List.mem_of_getElem? (i := 103) rfl))) (Or.inr (hw _ (List.mem_of_getElem? (i := 105) rfl))) (by decide) (t := (.object "java/lang/String")) (t' := (.object "java/lang/String")) (by decide) (by decide)))
  have F3 := Fld.other W7 F3 (Or.inr (slot_ne (Or.inr (hw _ (List.mem_of_getElem? (i := 107) rfl))) (Or.inr (hw _ (List.mem_of_getElem? (i := 105) rfl))) (by decide) (t := .int) (t' := (.object "java/lang/String")) (by decide) (by decide)))
  have z7 : n0 ≤ h7.size := by rw [W7.size]; exact z6
  have hk : k4 ≤ h7.size := by rw [W7.size]; exact hk
  have hz : h0.size ≤ h7.size := by rw [W7.size]; exact hz
  refine V.aloadN X7 hx 27 (hb hby d8_26) rfl rfl rfl ?_
  refine V.iloadN X7 hx 28 (hb hby d8_27) rfl rfl ?_
  refine V.putF X7 hx hZ 31 hown (hw _ (List.mem_of_getElem? (i := 106) rfl)) Via.refl e7 F3 E (Or.inr ⟨(hw _ (List.mem_of_getElem? (i := 107) rfl)), rfl, hnm⟩) (hw _ (List.mem_of_getElem? (i := 7) rfl)) (ty := .int) (by decide) rfl rfl (hb hby d8_28) rfl ?_
  intro T8 h8 X8 e8 W8 F3
  have E := E.wr W8
  have F1 := Fld.other W8 F1 (Or.inr (slot_ne (Or.inr (hw _ (List.mem_of_getElem? (i := 103) rfl))) (Or.inr (hw _ (List.mem_of_getElem? (i := 107) rfl))) (by decide) (t := (.object "java/lang/String")) (t' := .int) (by decide) (by decide)))
  have F2 := Fld.other W8 F2 (Or.inr (slot_ne (Or.inr (hw _ (List.mem_of_getElem? (i := 105) rfl))) (Or.inr (hw _ (List.mem_of_getElem? (i := 107) rfl))) (by decide) (t := (.object "java/lang/String")) (t' := .int) (by decide) (by decide)))
  have z8 : n0 ≤ h8.size := by rw [W8.size]; exact z7
  have hk : k4 ≤ h8.size := by rw [W8.size]; exact hk
  have hz : h0.size ≤ h8.size := by rw [W8.size]; exact hz
  refine V.vret X8 hx hlk hS (by rw [e8]; exact hk) hret (hb hby d8_31) (by decide) (by decide) ?_
  rw [e8]
  exact ⟨rfl, (Fr.app (Fr.app (Fr.app (Fr.app (Fr.app (Fr.app (Fr.nil _) (Fr.nil _)) (Fr.nil _)) (Fr.nil _)) (fr1 ge_o)) (fr1 ge_o)) (fr1 ge_o)), hz, E, F3⟩
theorem pn_0 : plainName "com/example/fusionutils/fusionutils/JudgementIsRelevantPinLaw" = true := by first | (simp [plainName, overriddenIn]; done) | decide +kernel
theorem ef_rm0 (m : MethodId) (p1 : Int32) (p2 : Int32) (p3 : Int32) : entryFrame m #[(.int p1), (.int p2), (.int p3)] maxLocals = mkF m 0 #[.val (.int p1), .val (.int p2), .val (.int p3), .unset, .unset, .unset, .unset] [] := by first | (simp [entryFrame, mkF, argsToLocals, Value.category, maxLocals]; done) | rfl
set_option maxRecDepth 65536 in
set_option maxHeartbeats 40000000 in
theorem rm0 (l : Launch) (Z : State) (a0 : Array Value) (hw : ∀ d ∈ tables_1, d.before a0 Z = true) (ws : List Jvm.Cond) (p1 p2 p3 : Int32) (cs : Int32) (fm : Value) (h0 : Heap) (n0 : Nat) (Z0 : n0 ≤ h0.size) (SC : Sta Z h0 "java/lang/String" "COMPACT_STRINGS" "Z" (.int cs)) (hcs : ¬ cs = 0) (SF : Sta Z h0 "jdk/internal/util/Preconditions" "SIOOBE_FORMATTER" "Ljava/util/function/BiFunction;" fm) (hfm : fm.isRef = true) :
    ConV l Z x code maxLocals ret ws room_1 #[(.int p1), (.int p2), (.int p3)] h0 (fun v h L => v = some (.int 1) ∧ Fr n0 L) := by
  refine ConV.of (plainFor_of_name pn_0) ?_
  intro p e s m below meth c s₁ hx hby hml hown hnm hret hlk hZ X0 e0 hS
  refine WpV.enter (ef_rm0 m p1 p2 p3) ?_
  refine V.iconst X0 hx 1 (2 : Int32) (hb hby at_0) rfl rfl ?_
  refine V.newarr X0 hx hZ 3 2 2 (hw _ (List.mem_of_getElem? (i := 0) rfl)) e0 (hb hby at_1) (by decide) (by decide) (by decide) (by decide) (by decide) rfl ?_
  intro T1 h1 tc q1 X1 e1 E1 A
  have ge_tc : n0 ≤ tc := by have := Z0; omega
  have SC := SC.ext E1
  have SF := SF.ext E1
  have z1 : n0 ≤ h1.size := Nat.le_trans Z0 E1.1
  refine V.astoreN X1 hx 4 #[.val (.int p1), .val (.int p2), .val (.int p3), .val (.ref tc), .unset, .unset, .unset] (hb hby at_3) rfl rfl rfl ?_
  refine V.aloadN X1 hx 5 (hb hby at_4) rfl rfl rfl ?_
  refine V.iconst X1 hx 6 (0 : Int32) (hb hby at_5) rfl rfl ?_
  refine V.iloadN X1 hx 7 (hb hby at_6) rfl rfl ?_
  refine V.callS X1 hx hZ 10 2 [(.int p2)] hown (hw _ (List.mem_of_getElem? (i := 1) rfl)) (hw _ (List.mem_of_getElem? (i := 2) rfl)) (hw _ (List.mem_of_getElem? (i := 3) rfl)) (hw _ (List.mem_of_getElem? (i := 4) rfl)) (by decide) pd_10 rfl e1 (rmV l Z a0 hw p2 h1) (hb hby at_7) (by rw [hml]; rfl) rfl rfl (by decide) (by decide) (by decide) (by decide) rfl ?_
  rintro v2 T2 L2 X2 ⟨Ac0, Al0, Au0, rfl, e2, rfl⟩
  refine V.castore X2 hx hZ 11 0 e2 A (by decide) (by decide) (hb hby at_10) rfl ?_
  intro T3 h3 X3 e3 W3 A
  have SC := SC.wr W3
  have SF := SF.wr W3
  have z3 : n0 ≤ h3.size := by rw [W3.size]; exact z1
  refine V.aloadN X3 hx 12 (hb hby at_11) rfl rfl rfl ?_
  refine V.iconst X3 hx 13 (1 : Int32) (hb hby at_12) rfl rfl ?_
  refine V.iloadN X3 hx 14 (hb hby at_13) rfl rfl ?_
  refine V.bipush X3 hx 16 (8 : Int32) (hb hby at_14) rfl rfl ?_
  refine V.iushr X3 hx 17 (hb hby at_16) rfl ?_
  refine V.callS X3 hx hZ 20 2 [(.int ((p2).toUInt32 >>> ((8 : Int32) &&& 31).toUInt32).toInt32)] hown (hw _ (List.mem_of_getElem? (i := 1) rfl)) (hw _ (List.mem_of_getElem? (i := 2) rfl)) (hw _ (List.mem_of_getElem? (i := 3) rfl)) (hw _ (List.mem_of_getElem? (i := 4) rfl)) (by decide) pd_10 rfl e3 (rmV l Z a0 hw ((p2).toUInt32 >>> ((8 : Int32) &&& 31).toUInt32).toInt32 h3) (hb hby at_17) (by rw [hml]; rfl) rfl rfl (by decide) (by decide) (by decide) (by decide) rfl ?_
  rintro v4 T4 L4 X4 ⟨Ac1, Al1, Au1, rfl, e4, rfl⟩
  refine V.castore X4 hx hZ 21 1 e4 A (by decide) (by decide) (hb hby at_20) rfl ?_
  intro T5 h5 X5 e5 W5 A
  have SC := SC.wr W5
  have SF := SF.wr W5
  have z5 : n0 ≤ h5.size := by rw [W5.size]; exact z3
  have A : IArr Z h5 tc .char 2 (two Ac0 Ac1) := A.cong (fun j hj => by match j, hj with | 0, _ => exact congrArg Value.int (own_ch Ac0 (by omega)).2.2.1.symm | 1, _ => exact congrArg Value.int (own_ch Ac1 (by omega)).2.2.1.symm)
  refine V.iconst X5 hx 22 (2 : Int32) (hb hby at_21) rfl rfl ?_
  refine V.newarr X5 hx hZ 24 2 2 (hw _ (List.mem_of_getElem? (i := 0) rfl)) e5 (hb hby at_22) (by decide) (by decide) (by decide) (by decide) (by decide) rfl ?_
  intro T6 h6 dc q6 X6 e6 E6 B
  have ne_tc_dc : tc ≠ dc := fun q => by have := A.lt; rw [q, q6] at this; exact Nat.lt_irrefl _ this
  have ge_dc : n0 ≤ dc := by have := z5; omega
  have SC := SC.ext E6
  have SF := SF.ext E6
  have A := A.ext E6
  have z6 : n0 ≤ h6.size := Nat.le_trans z5 E6.1
  refine V.astore X6 hx 26 #[.val (.int p1), .val (.int p2), .val (.int p3), .val (.ref tc), .val (.ref dc), .unset, .unset] (hb hby at_24) rfl rfl rfl ?_
  refine V.aload X6 hx 28 (hb hby at_26) rfl rfl rfl ?_
  refine V.iconst X6 hx 29 (0 : Int32) (hb hby at_28) rfl rfl ?_
  refine V.iloadN X6 hx 30 (hb hby at_29) rfl rfl ?_
  refine V.callS X6 hx hZ 33 2 [(.int p3)] hown (hw _ (List.mem_of_getElem? (i := 1) rfl)) (hw _ (List.mem_of_getElem? (i := 2) rfl)) (hw _ (List.mem_of_getElem? (i := 3) rfl)) (hw _ (List.mem_of_getElem? (i := 4) rfl)) (by decide) pd_10 rfl e6 (rmV l Z a0 hw p3 h6) (hb hby at_30) (by rw [hml]; rfl) rfl rfl (by decide) (by decide) (by decide) (by decide) rfl ?_
  rintro v7 T7 L7 X7 ⟨Bc0, Bl0, Bu0, rfl, e7, rfl⟩
  refine V.castore X7 hx hZ 34 0 e7 B (by decide) (by decide) (hb hby at_33) rfl ?_
  intro T8 h8 X8 e8 W8 B
  have SC := SC.wr W8
  have SF := SF.wr W8
  have A := A.other W8 ne_tc_dc
  have z8 : n0 ≤ h8.size := by rw [W8.size]; exact z6
  refine V.aload X8 hx 36 (hb hby at_34) rfl rfl rfl ?_
  refine V.iconst X8 hx 37 (1 : Int32) (hb hby at_36) rfl rfl ?_
  refine V.iloadN X8 hx 38 (hb hby at_37) rfl rfl ?_
  refine V.bipush X8 hx 40 (8 : Int32) (hb hby at_38) rfl rfl ?_
  refine V.iushr X8 hx 41 (hb hby at_40) rfl ?_
  refine V.callS X8 hx hZ 44 2 [(.int ((p3).toUInt32 >>> ((8 : Int32) &&& 31).toUInt32).toInt32)] hown (hw _ (List.mem_of_getElem? (i := 1) rfl)) (hw _ (List.mem_of_getElem? (i := 2) rfl)) (hw _ (List.mem_of_getElem? (i := 3) rfl)) (hw _ (List.mem_of_getElem? (i := 4) rfl)) (by decide) pd_10 rfl e8 (rmV l Z a0 hw ((p3).toUInt32 >>> ((8 : Int32) &&& 31).toUInt32).toInt32 h8) (hb hby at_41) (by rw [hml]; rfl) rfl rfl (by decide) (by decide) (by decide) (by decide) rfl ?_
  rintro v9 T9 L9 X9 ⟨Bc1, Bl1, Bu1, rfl, e9, rfl⟩
  refine V.castore X9 hx hZ 45 1 e9 B (by decide) (by decide) (hb hby at_44) rfl ?_
  intro T10 h10 X10 e10 W10 B
  have SC := SC.wr W10
  have SF := SF.wr W10
  have A := A.other W10 ne_tc_dc
  have z10 : n0 ≤ h10.size := by rw [W10.size]; exact z8
  have B : IArr Z h10 dc .char 2 (two Bc0 Bc1) := B.cong (fun j hj => by match j, hj with | 0, _ => exact congrArg Value.int (own_ch Bc0 (by omega)).2.2.1.symm | 1, _ => exact congrArg Value.int (own_ch Bc1 (by omega)).2.2.1.symm)
  refine V.newO X10 hx hZ 48 hown (hw _ (List.mem_of_getElem? (i := 6) rfl)) (hw _ (List.mem_of_getElem? (i := 7) rfl)) (hw _ (List.mem_of_getElem? (i := 8) rfl)) e10 (hb hby at_45) (by decide) (by decide) rfl ?_
  intro T11 h11 o q11 X11 e11 E11 E D
  have ne_tc_o : tc ≠ o := fun q => by have := A.lt; rw [q, q11] at this; exact Nat.lt_irrefl _ this
  have ne_dc_o : dc ≠ o := fun q => by have := B.lt; rw [q, q11] at this; exact Nat.lt_irrefl _ this
  have ge_o : n0 ≤ o := by have := z10; omega
  have SC := SC.ext E11
  have SF := SF.ext E11
  have A := A.ext E11
  have B := B.ext E11
  have z11 : n0 ≤ h11.size := Nat.le_trans z10 E11.1
  have F1 := D (Or.inr (hw _ (List.mem_of_getElem? (i := 103) rfl))) (ty := (.object "java/lang/String")) (by decide)
  have F2 := D (Or.inr (hw _ (List.mem_of_getElem? (i := 105) rfl))) (ty := (.object "java/lang/String")) (by decide)
  have F3 := D (Or.inr (hw _ (List.mem_of_getElem? (i := 107) rfl))) (ty := .int) (by decide)
  refine V.dup X11 hx 49 (hb hby at_48) rfl rfl ?_
  refine V.newO X11 hx hZ 52 hown (hw _ (List.mem_of_getElem? (i := 9) rfl)) (hw _ (List.mem_of_getElem? (i := 10) rfl)) (hw _ (List.mem_of_getElem? (i := 11) rfl)) e11 (hb hby at_49) (by decide) (by decide) rfl ?_
  intro T12 h12 s1 q12 X12 e12 E12 E1 D1
  have ne_tc_s1 : tc ≠ s1 := fun q => by have := A.lt; rw [q, q12] at this; exact Nat.lt_irrefl _ this
  have ne_dc_s1 : dc ≠ s1 := fun q => by have := B.lt; rw [q, q12] at this; exact Nat.lt_irrefl _ this
  have ne_o_s1 : o ≠ s1 := fun q => by have := E.lt; rw [q, q12] at this; exact Nat.lt_irrefl _ this
  have ge_s1 : n0 ≤ s1 := by have := z11; omega
  have SC := SC.ext E12
  have SF := SF.ext E12
  have A := A.ext E12
  have B := B.ext E12
  have E := E.ext E12
  have F1 := F1.ext E12
  have F2 := F2.ext E12
  have F3 := F3.ext E12
  have z12 : n0 ≤ h12.size := Nat.le_trans z11 E12.1
  have c1 := D1 (Or.inr (hw _ (List.mem_of_getElem? (i := 35) rfl))) (ty := .byte) (by decide)
  have v1 := D1 (Or.inr (hw _ (List.mem_of_getElem? (i := 37) rfl))) (ty := (.array .byte)) (by decide)
  refine V.dup X12 hx 53 (hb hby at_52) rfl rfl ?_
  refine V.aloadN X12 hx 54 (hb hby at_53) rfl rfl rfl ?_
  have E10 := E1
  refine V.callI X12 hx hZ 57 3 s1 [(.ref tc)] rfl hown (hw _ (List.mem_of_getElem? (i := 12) rfl)) (hw _ (List.mem_of_getElem? (i := 13) rfl)) (hw _ (List.mem_of_getElem? (i := 11) rfl)) (hw _ (List.mem_of_getElem? (i := 14) rfl)) (by decide) pd_16 rfl e12 (rmS1 l Z a0 hw s1 tc Ac0 Ac1 cs h12 n0 z12 E1 c1 v1 SC hcs A Au0 Au1 ge_s1) (hb hby at_54) (by rw [hml]; rfl) rfl rfl (by decide) (by decide) (by decide) (by decide) rfl ?_
  rintro v13 T13 L13 X13 ⟨rfl, N13, K13, vb1, gv1, I1⟩
  have SC := Sta.keepE SC K13 E10
  have SF := Sta.keepE SF K13 E10
  have A := A.keep K13 (ninS ne_tc_s1 nin0)
  have B := B.keep K13 (ninS ne_dc_s1 nin0)
  have E := E.keep K13
  have F1 := F1.keep K13 (ninS ne_o_s1 nin0)
  have F2 := F2.keep K13 (ninS ne_o_s1 nin0)
  have F3 := F3.keep K13 (ninS ne_o_s1 nin0)
  have z13 : n0 ≤ T13.heap.size := Nat.le_trans z12 K13.1
  have I1b := I1
  refine V.newO X13 hx hZ 60 hown (hw _ (List.mem_of_getElem? (i := 9) rfl)) (hw _ (List.mem_of_getElem? (i := 10) rfl)) (hw _ (List.mem_of_getElem? (i := 11) rfl)) rfl (hb hby at_57) (by decide) (by decide) rfl ?_
  intro T14 h14 s2 q14 X14 e14 E14 E2 D2
  have ne_tc_s2 : tc ≠ s2 := fun q => by have := A.lt; rw [q, q14] at this; exact Nat.lt_irrefl _ this
  have ne_dc_s2 : dc ≠ s2 := fun q => by have := B.lt; rw [q, q14] at this; exact Nat.lt_irrefl _ this
  have ne_o_s2 : o ≠ s2 := fun q => by have := E.lt; rw [q, q14] at this; exact Nat.lt_irrefl _ this
  have ge_s2 : n0 ≤ s2 := by have := z13; omega
  have SC := SC.ext E14
  have SF := SF.ext E14
  have A := A.ext E14
  have B := B.ext E14
  have E := E.ext E14
  have F1 := F1.ext E14
  have F2 := F2.ext E14
  have F3 := F3.ext E14
  have z14 : n0 ≤ h14.size := Nat.le_trans z13 E14.1
  have c2 := D2 (Or.inr (hw _ (List.mem_of_getElem? (i := 35) rfl))) (ty := .byte) (by decide)
  have v2 := D2 (Or.inr (hw _ (List.mem_of_getElem? (i := 37) rfl))) (ty := (.array .byte)) (by decide)
  have I1 := I1.ext E14
  have n12 : s1 ≠ s2 := fun q => by have := I1b.2.1.lt; rw [q, q14] at this; exact Nat.lt_irrefl _ this
  have n13 : vb1 ≠ s2 := fun q => by have := I1b.2.2.2.lt; rw [q, q14] at this; exact Nat.lt_irrefl _ this
  refine V.dup X14 hx 61 (hb hby at_60) rfl rfl ?_
  refine V.aload X14 hx 63 (hb hby at_61) rfl rfl rfl ?_
  have E20 := E2
  refine V.callI X14 hx hZ 66 4 s2 [(.ref dc)] rfl hown (hw _ (List.mem_of_getElem? (i := 12) rfl)) (hw _ (List.mem_of_getElem? (i := 13) rfl)) (hw _ (List.mem_of_getElem? (i := 11) rfl)) (hw _ (List.mem_of_getElem? (i := 14) rfl)) (by decide) pd_16 rfl e14 (rmS1 l Z a0 hw s2 dc Bc0 Bc1 cs h14 n0 z14 E2 c2 v2 SC hcs B Bu0 Bu1 ge_s2) (hb hby at_63) (by rw [hml]; rfl) rfl rfl (by decide) (by decide) (by decide) (by decide) rfl ?_
  rintro v15 T15 L15 X15 ⟨rfl, N15, K15, vb2, gv2, I2⟩
  have SC := Sta.keepE SC K15 E20
  have SF := Sta.keepE SF K15 E20
  have A := A.keep K15 (ninS ne_tc_s2 nin0)
  have B := B.keep K15 (ninS ne_dc_s2 nin0)
  have E := E.keep K15
  have F1 := F1.keep K15 (ninS ne_o_s2 nin0)
  have F2 := F2.keep K15 (ninS ne_o_s2 nin0)
  have F3 := F3.keep K15 (ninS ne_o_s2 nin0)
  have z15 : n0 ≤ T15.heap.size := Nat.le_trans z14 K15.1
  have I1 := I1.keep K15 (ninS n12 nin0) (ninS n13 nin0)
  refine V.iloadN X15 hx 67 (hb hby at_66) rfl rfl ?_
  refine V.callIS X15 hx hZ 70 1 o [(.ref s1), (.ref s2), (.int p1)] rfl hown hS (Nat.zero_le _) (hw _ (List.mem_of_getElem? (i := 38) rfl)) (hw _ (List.mem_of_getElem? (i := 39) rfl)) (hw _ (List.mem_of_getElem? (i := 8) rfl)) (hw _ (List.mem_of_getElem? (i := 40) rfl)) (by decide) pd_17 rfl rfl (rmJ l Z a0 hw o s1 s2 vb1 vb2 p1 Ac0 Ac1 Bc0 Bc1 fm cs T15.heap n0 z15 E F1 F2 F3 I1 I2 Al0 Au0 Al1 Au1 Bl0 Bu0 Bl1 Bu1 SF hfm SC hcs ge_o) (hb hby at_67) (by rw [hml]; rfl) rfl rfl (by decide) (by decide) (by decide) (by decide) rfl ?_
  rintro v16 T16 L16 k16 X16 hS hk hZ hown ⟨rfl, N16, hz16, EJ, FJ⟩
  refine V.astore X16 hx 72 #[.val (.int p1), .val (.int p2), .val (.int p3), .val (.ref tc), .val (.ref dc), .val (.ref o), .unset] (hb hby at_70) rfl rfl rfl ?_
  refine V.iloadN X16 hx 73 (hb hby at_72) rfl rfl ?_
  refine V.iconst X16 hx 74 (1 : Int32) (hb hby at_73) rfl rfl ?_
  refine V.icmpLt X16 hx 83 77 (hb hby at_74) (by decide) (by decide) rfl (fun q => ?_) (fun q => ?_)
  · skip
    refine V.iconst X16 hx 84 (0 : Int32) (hb hby at_83) rfl rfl ?_
    refine V.istore X16 hx 86 #[.val (.int p1), .val (.int p2), .val (.int p3), .val (.ref tc), .val (.ref dc), .val (.ref o), .val (.int (0 : Int32))] (hb hby at_84) rfl rfl ?_
    refine V.aload X16 hx 88 (hb hby at_86) rfl rfl rfl ?_
    refine V.callV X16 hx hZ 91 0 o [] hown (hw _ (List.mem_of_getElem? (i := 108) rfl)) (hw _ (List.mem_of_getElem? (i := 109) rfl)) (hw _ (List.mem_of_getElem? (i := 111) rfl)) (hw _ (List.mem_of_getElem? (i := 110) rfl)) (hw _ (List.mem_of_getElem? (i := 8) rfl)) (hw _ (List.mem_of_getElem? (i := 112) rfl)) (by decide) pd_7 rfl rfl EJ (rmIR l Z a0 hw o p1 T16.heap FJ) (hb hby at_88) (by rw [hml]; rfl) rfl rfl (by decide) (by decide) (by decide) (by decide) rfl ?_
    rintro v17 T17 L17 X17 ⟨rfl, e17, rfl⟩
    rw [if_neg (show ¬ (0 : Int32) < p1 by rw [Int32.lt_iff_toInt_lt] at q ⊢; have t1 : (1 : Int32).toInt = 1 := rfl; have t0 : (0 : Int32).toInt = 0 := rfl; omega)]
    refine V.iload X17 hx 93 (hb hby at_91) rfl rfl ?_
    refine V.icmpNe X17 hx 109 96 (hb hby at_93) (by decide) (by decide) rfl (fun q => ?_) (fun q => ?_)
    · exact absurd rfl q
    · skip
      refine V.aload X17 hx 98 (hb hby at_96) rfl rfl rfl ?_
      refine V.callV X17 hx hZ 101 0 o [] hown (hw _ (List.mem_of_getElem? (i := 113) rfl)) (hw _ (List.mem_of_getElem? (i := 114) rfl)) (hw _ (List.mem_of_getElem? (i := 116) rfl)) (hw _ (List.mem_of_getElem? (i := 115) rfl)) (hw _ (List.mem_of_getElem? (i := 8) rfl)) (hw _ (List.mem_of_getElem? (i := 117) rfl)) (by decide) pd_9 rfl e17 EJ (rmRl l Z a0 hw o p1 T16.heap FJ) (hb hby at_98) (by rw [hml]; rfl) rfl rfl (by decide) (by decide) (by decide) (by decide) rfl ?_
      rintro v18 T18 L18 X18 ⟨rfl, e18, rfl⟩
      refine V.iloadN X18 hx 102 (hb hby at_101) rfl rfl ?_
      refine V.icmpNe X18 hx 109 105 (hb hby at_102) (by decide) (by decide) rfl (fun q => ?_) (fun q => ?_)
      · exact absurd rfl q
      · skip
        refine V.iconst X18 hx 106 (1 : Int32) (hb hby at_105) rfl rfl ?_
        refine V.goto X18 hx 110 (hb hby at_106) (by decide) (by decide) ?_
        refine V.nret X18 hx hlk hS (by rw [e18]; exact hk) (t := .boolean) hret (by simp) (hb hby at_110) (by decide) (by decide) ?_
        exact ⟨rfl, (Fr.app (Fr.app (Fr.app (Fr.app (Fr.app (Fr.app (Fr.app (Fr.app (Fr.app (Fr.app (Fr.app (Fr.app (Fr.app (Fr.nil _) (Fr.nil _)) (fr1 ge_tc)) (Fr.nil _)) (fr1 ge_tc)) (Fr.nil _)) (fr1 ge_dc)) (Fr.nil _)) (fr1 ge_dc)) N13) N15) N16) (Fr.nil _)) (Fr.nil _))⟩
  · skip
    refine V.iconst X16 hx 78 (1 : Int32) (hb hby at_77) rfl rfl ?_
    refine V.istore X16 hx 80 #[.val (.int p1), .val (.int p2), .val (.int p3), .val (.ref tc), .val (.ref dc), .val (.ref o), .val (.int (1 : Int32))] (hb hby at_78) rfl rfl ?_
    refine V.goto X16 hx 86 (hb hby at_80) (by decide) (by decide) ?_
    refine V.aload X16 hx 88 (hb hby at_86) rfl rfl rfl ?_
    refine V.callV X16 hx hZ 91 0 o [] hown (hw _ (List.mem_of_getElem? (i := 108) rfl)) (hw _ (List.mem_of_getElem? (i := 109) rfl)) (hw _ (List.mem_of_getElem? (i := 111) rfl)) (hw _ (List.mem_of_getElem? (i := 110) rfl)) (hw _ (List.mem_of_getElem? (i := 8) rfl)) (hw _ (List.mem_of_getElem? (i := 112) rfl)) (by decide) pd_7 rfl rfl EJ (rmIR l Z a0 hw o p1 T16.heap FJ) (hb hby at_88) (by rw [hml]; rfl) rfl rfl (by decide) (by decide) (by decide) (by decide) rfl ?_
    rintro v19 T19 L19 X19 ⟨rfl, e19, rfl⟩
    rw [if_pos (show (0 : Int32) < p1 by rw [Int32.lt_iff_toInt_lt] at q ⊢; have t1 : (1 : Int32).toInt = 1 := rfl; have t0 : (0 : Int32).toInt = 0 := rfl; omega)]
    refine V.iload X19 hx 93 (hb hby at_91) rfl rfl ?_
    refine V.icmpNe X19 hx 109 96 (hb hby at_93) (by decide) (by decide) rfl (fun q => ?_) (fun q => ?_)
    · exact absurd rfl q
    · skip
      refine V.aload X19 hx 98 (hb hby at_96) rfl rfl rfl ?_
      refine V.callV X19 hx hZ 101 0 o [] hown (hw _ (List.mem_of_getElem? (i := 113) rfl)) (hw _ (List.mem_of_getElem? (i := 114) rfl)) (hw _ (List.mem_of_getElem? (i := 116) rfl)) (hw _ (List.mem_of_getElem? (i := 115) rfl)) (hw _ (List.mem_of_getElem? (i := 8) rfl)) (hw _ (List.mem_of_getElem? (i := 117) rfl)) (by decide) pd_9 rfl e19 EJ (rmRl l Z a0 hw o p1 T16.heap FJ) (hb hby at_98) (by rw [hml]; rfl) rfl rfl (by decide) (by decide) (by decide) (by decide) rfl ?_
      rintro v20 T20 L20 X20 ⟨rfl, e20, rfl⟩
      refine V.iloadN X20 hx 102 (hb hby at_101) rfl rfl ?_
      refine V.icmpNe X20 hx 109 105 (hb hby at_102) (by decide) (by decide) rfl (fun q => ?_) (fun q => ?_)
      · exact absurd rfl q
      · skip
        refine V.iconst X20 hx 106 (1 : Int32) (hb hby at_105) rfl rfl ?_
        refine V.goto X20 hx 110 (hb hby at_106) (by decide) (by decide) ?_
        refine V.nret X20 hx hlk hS (by rw [e20]; exact hk) (t := .boolean) hret (by simp) (hb hby at_110) (by decide) (by decide) ?_
        exact ⟨rfl, (Fr.app (Fr.app (Fr.app (Fr.app (Fr.app (Fr.app (Fr.app (Fr.app (Fr.app (Fr.app (Fr.app (Fr.app (Fr.app (Fr.nil _) (Fr.nil _)) (fr1 ge_tc)) (Fr.nil _)) (fr1 ge_tc)) (Fr.nil _)) (fr1 ge_dc)) (Fr.nil _)) (fr1 ge_dc)) N13) N15) N16) (Fr.nil _)) (Fr.nil _))⟩
set_option maxRecDepth 65536 in
set_option maxHeartbeats 40000000 in
theorem comes_1 {Post : Tables → Env → Array Value → State → Outcome → State → Prop} (hpost : ∀ tb e args s v u, (limb_1_1.after args s (.returned v) u = true ∧ limb_1_2.after args s (.returned v) u = true ∧ True) → Jvm.Pilot.@@N@@.Jvm.D.FramedW s (.returned v) u (Jvm.fieldLocs frame_1_writes args s ++ Jvm.arrayLocs frame_1_arrays args s ++ Jvm.staticLocs frame_1_statics s) 32 2176 → Post tb e args s (.returned v) u) :
    ArmFor flags0 classFile x code maxLocals ret World_1 tables_1 room_1 Calls_1 rest_1 Pre_1 Post := by
  intro l hfl _ _ p e ha hc hk s m args below hf hA hF happ hP
  obtain ⟨hcalls, hrest, hpre⟩ := hP
  obtain ⟨-, -, -, hnamed, -, -, -, hat⟩ := (Spec.applies_iff hf).mp happ
  obtain ⟨hg, hn⟩ := and_e (Cond.before_iff.mp (show (Jvm.Cond.and given_1 narrow_1).before args s = true from hpre))
  obtain ⟨hcount, hg0⟩ := and_e hg
  obtain ⟨k0, hg1⟩ := and_e hg0
  obtain ⟨k1, hg2⟩ := and_e hg1
  have k2 := hg2
  obtain ⟨w0, w1, w2, rfl⟩ : ∃ w0 w1 w2 : Value, args = #[w0, w1, w2] := by
    have hs : args.size = 3 := by simpa [Cond.value, given_1] using hcount
    obtain ⟨L⟩ := args
    match L, hs with
    | [w0, w1, w2], _ => exact ⟨w0, w1, w2, rfl⟩
  have hw := fun d (hd : d ∈ tables_1) => atoms_spec (ws := Jvm.Cond.code x code maxLocals ret :: tables_1) hat d (List.mem_cons_of_mem _ hd)
  have hfit : Fit s := fun {y c} hc i hi => by
    obtain ⟨ha, rfl⟩ := Array.getElem?_eq_some_iff.mp hc
    have q := List.all_eq_true.mp ((Array.all_eq_true_iff_forall_mem.mp hF) _ (Array.getElem_mem ha)) i (List.mem_range.mpr hi)
    simpa [Array.getElem?_eq_getElem hi] using q
  obtain ⟨i0, j0⟩ := is_v k0
  obtain rfl : w0 = (.int i0) := Option.some.inj j0
  obtain ⟨i1, j1⟩ := is_v k1
  obtain rfl : w1 = (.int i1) := Option.some.inj j1
  obtain ⟨i2, j2⟩ := is_v k2
  obtain rfl : w2 = (.int i2) := Option.some.inj j2
  obtain ⟨hsets, hown0⟩ := atoms_of _ (rest_1_c_eq ▸ (show rest_1_c.before _ s = true from hrest))
  have n5 := not_v (Cond.before_iff.mp (hsets _ (List.mem_of_getElem? (i := 2) rfl)))
  obtain ⟨i11, e10⟩ := is_v (Cond.before_iff.mp (hsets _ (List.mem_of_getElem? (i := 1) rfl)))
  have S12 : Sta s s.heap "java/lang/String" "COMPACT_STRINGS" "Z" (.int i11) := Sta.start e10 (Or.inl (hsets _ (List.mem_of_getElem? (i := 0) rfl)))
  obtain ⟨v13, e14, r15⟩ := isR_v (Cond.before_iff.mp (hsets _ (List.mem_of_getElem? (i := 8) rfl)))
  have S16 : Sta s s.heap "jdk/internal/util/Preconditions" "SIOOBE_FORMATTER" "Ljava/util/function/BiFunction;" v13 := Sta.start e14 (Or.inl (hsets _ (List.mem_of_getElem? (i := 7) rfl)))
  have c17 : ¬ (i11 = (0 : Int32)) := gotF (Cond.eq_ints e10 (Term.int_eval (0))) n5
  obtain ⟨n, o, h1, h2, h3, _, L, rfl, ⟨rfl, N⟩, hq⟩ := rm0 l s _ hw tables_1 i0 i1 i2 i11 v13 s.heap s.heap.size (Nat.le_refl _) S12 c17 S16 r15 p e ha hc hk s m _ below hf ((Spec.applies_iff_loose hf).mp happ).1 ⟨rfl, State.Warmed39.refl s, rfl⟩ trivial
  refine ⟨n, _, h1, h2, h3, hpost _ _ _ _ _ _ ⟨Cond.after_iff.mpr rfl, Cond.after_iff.mpr (eq_i res_at (Term.int_eval (1)) rfl), trivial⟩ ⟨hq.1, hq.2.1, hq.2.2.1, (hq.2.2.2.sift fun y hy => Or.inr (N y hy)).mono (by decide) (by decide)⟩⟩
theorem main_1_1 : Claimed_1_1 := comes_1 fun _ _ _ _ _ _ h hF => ⟨h.1, hF⟩
theorem main_1_2 : Claimed_1_2 := comes_1 fun _ _ _ _ _ _ h hF => ⟨h.2.1, hF⟩
end Jvm.Pilot.@@N@@
namespace Jvm.Pilot.@@N@@
open Jvm Jvm.ClassFile Sem Op Lib Jvm.Free Jvm.Stand Jvm.Pilot.@@N@@.Jvm.D
/-! MADE BY PROGRAM (witnessworld.py) out of the Statement's table words and the real class files: 23 classes; the members and pool entries that the words name. The judged class is class 1, her method 2. -/
namespace start1
open Jvm.ClassFile
def u (s : String) : CpInfo := .utf8 (stringToUtf16 s)
/-- a pool by its gaps: so many unusable entries, then the entry; so many at the end -/
def gap : Nat → List CpInfo → List CpInfo
  | 0, r => r
  | n + 1, r => .unusable :: gap n r
def poolList (es : List (Nat × CpInfo)) (last : Nat) : List CpInfo := es.foldr (fun e r => gap e.1 (e.2 :: r)) (gap last [])
def pool (es : List (Nat × CpInfo)) (last : Nat) : Array CpInfo := ⟨poolList es last⟩
def fileOf (pool : Array CpInfo) (this : Nat) (attrs : Array Attribute := #[]) (ms : Array MethodInfo := #[]) (fl : Nat := 33) (sup : Nat := 0) (ifs : Array Nat := #[]) (fds : Array FieldInfo := #[]) : ClassFile where
  minorVersion := 0
  majorVersion := 65
  constantPool := pool
  accessFlags := fl
  thisClass := this
  superClass := sup
  interfaces := ifs
  fields := fds
  methods := ms
  attributes := attrs
def plain (name : String) (sup : Option ClassId) : Class where
  name := name
  kind := .ordinary
  loader := none
  accessFlags := 33
  super := sup
  interfaces := #[]
  cf := none
  fields := #[]
  methods := #[]
  instanceTypes := #[]
  staticTypes := #[]
  resolved := #[]
  callSites := []
  init := .initialized
  statics := none
  mirror := none

def pool0 : Array CpInfo := pool [(5, u "<init>"), (0, u "()V"), (1, .class_ 10), (1, u "java/lang/Object")] 113

def k0c0 : Code := { maxStack := 0, maxLocals := 1, code := object_method_1_code, exceptionTable := #[], attributes := #[] }
def k0m0 : Method := { name := "<init>", desc := "()V", sig := { parameters := [], returnType := none }, accessFlags := 1, code := some k0c0 }
/-- java/lang/Object -/
def k0 : Class := { plain "java/lang/Object" none with
  accessFlags := 33
  interfaces := #[]
  cf := some (fileOf pool0 8 #[] #[{ accessFlags := 1, nameIndex := 5, descriptorIndex := 6, attributes := #[] }] 33 0 #[] #[])
  fields := #[]
  methods := #[k0m0]
  instanceTypes := #[]
  staticTypes := #[]
  resolved := Array.replicate 124 none
  statics := none }

def pool1 : Array CpInfo := pool [(2, .class_ 4), (1, u "java/lang/Object"), (0, u "<init>"), (0, u "()V"), (0, .integer 2147483647), (0, .methodref 9 10), (0, .class_ 11), (0, .nameAndType 12 13), (0, u "com/example/fusionutils/fusionutils/JudgementIsRelevantPinLaw"), (0, u "visible"), (0, u "(I)C"), (0, .class_ 15), (0, u "com/example/fusionutils/fusionutils/Judgement"), (0, .class_ 17), (0, u "java/lang/String"), (0, .methodref 16 19), (0, .nameAndType 5 20), (0, u "([C)V"), (0, .methodref 14 22), (0, .nameAndType 5 23), (0, u "(Ljava/lang/String;Ljava/lang/String;I)V"), (0, .methodref 14 25), (0, .nameAndType 26 27), (0, u "isRelevant"), (0, u "()Z"), (0, .methodref 14 29), (0, .nameAndType 30 31), (0, u "relevance"), (0, u "()I"), (2, u "law"), (0, u "(III)Z")] 5

def k1m0 : Method := { name := "<init>", desc := "()V", sig := { parameters := [], returnType := none }, accessFlags := 2, code := none }
def k1c1 : Code := { maxStack := 3, maxLocals := 1, code := method_2_code, exceptionTable := #[], attributes := #[] }
def k1m1 : Method := { name := "visible", desc := "(I)C", sig := { parameters := [.int], returnType := some .char }, accessFlags := 10, code := some k1c1 }
def k1c2 : Code := { maxStack := 6, maxLocals := 7, code := code, exceptionTable := #[], attributes := #[] }
def k1m2 : Method := { name := "law", desc := "(III)Z", sig := { parameters := [.int, .int, .int], returnType := some .boolean }, accessFlags := 9, code := some k1c2 }
/-- com/example/fusionutils/fusionutils/JudgementIsRelevantPinLaw -/
def k1 : Class := { plain "com/example/fusionutils/fusionutils/JudgementIsRelevantPinLaw" (some 0) with
  accessFlags := 49
  interfaces := #[]
  cf := some (fileOf pool1 9 #[] #[{ accessFlags := 2, nameIndex := 5, descriptorIndex := 6, attributes := #[] }, { accessFlags := 10, nameIndex := 12, descriptorIndex := 13, attributes := #[] }, { accessFlags := 9, nameIndex := 34, descriptorIndex := 35, attributes := #[] }] 49 2 #[] #[])
  fields := #[]
  methods := #[k1m0, k1m1, k1m2]
  instanceTypes := #[]
  staticTypes := #[]
  resolved := Array.replicate 41 none
  statics := none }

def pool2 : Array CpInfo := pool [(1, .methodref 2 3), (0, .class_ 4), (0, .nameAndType 5 6), (0, u "java/lang/Object"), (0, u "<init>"), (0, u "()V"), (0, .class_ 8), (0, u "java/lang/Record")] 13

def k2c0 : Code := { maxStack := 1, maxLocals := 1, code := jdk_30_method_1_code, exceptionTable := #[], attributes := #[] }
def k2m0 : Method := { name := "<init>", desc := "()V", sig := { parameters := [], returnType := none }, accessFlags := 4, code := some k2c0 }
/-- java/lang/Record -/
def k2 : Class := { plain "java/lang/Record" (some 0) with
  accessFlags := 1057
  interfaces := #[]
  cf := some (fileOf pool2 7 #[] #[{ accessFlags := 4, nameIndex := 5, descriptorIndex := 6, attributes := #[] }] 1057 2 #[] #[])
  fields := #[]
  methods := #[k2m0]
  instanceTypes := #[]
  staticTypes := #[]
  resolved := Array.replicate 22 none
  statics := none }

def pool3 : Array CpInfo := pool [(1, .methodref 2 3), (0, .class_ 4), (0, .nameAndType 5 6), (0, u "java/lang/Record"), (0, u "<init>"), (0, u "()V"), (0, .string 8), (0, u "topic"), (0, .methodref 10 11), (0, .class_ 12), (0, .nameAndType 13 14), (0, u "com/example/fusionutils/fusionutils/Fields"), (0, u "requireId"), (0, u "(Ljava/lang/String;Ljava/lang/String;)V"), (0, .string 16), (0, u "document"), (0, .fieldref 18 19), (0, .class_ 20), (0, .nameAndType 8 21), (0, u "com/example/fusionutils/fusionutils/Judgement"), (0, u "Ljava/lang/String;"), (0, .fieldref 18 23), (0, .nameAndType 16 21), (0, .fieldref 18 25), (0, .nameAndType 26 27), (0, u "relevance"), (0, u "I"), (14, u "(Ljava/lang/String;Ljava/lang/String;I)V"), (37, u "FIELDS"), (2, u "TOPIC_FIELD"), (1, u "DOCUMENT_FIELD"), (1, u "RELEVANCE_FIELD"), (7, u "isRelevant"), (0, u "()Z"), (1, u "()I")] 31

def k3c0 : Code := { maxStack := 2, maxLocals := 4, code := prog_17_method_1_code, exceptionTable := #[], attributes := #[] }
def k3m0 : Method := { name := "<init>", desc := "(Ljava/lang/String;Ljava/lang/String;I)V", sig := { parameters := [(.object "java/lang/String"), (.object "java/lang/String"), .int], returnType := none }, accessFlags := 1, code := some k3c0 }
def k3c1 : Code := { maxStack := 1, maxLocals := 1, code := prog_17_method_3_code, exceptionTable := #[], attributes := #[] }
def k3m1 : Method := { name := "isRelevant", desc := "()Z", sig := { parameters := [], returnType := some .boolean }, accessFlags := 1, code := some k3c1 }
def k3c2 : Code := { maxStack := 1, maxLocals := 1, code := prog_17_method_10_code, exceptionTable := #[], attributes := #[] }
def k3m2 : Method := { name := "relevance", desc := "()I", sig := { parameters := [], returnType := some .int }, accessFlags := 1, code := some k3c2 }
/-- com/example/fusionutils/fusionutils/Judgement -/
def k3 : Class := { plain "com/example/fusionutils/fusionutils/Judgement" (some 2) with
  accessFlags := 49
  interfaces := #[]
  cf := some (fileOf pool3 18 #[] #[{ accessFlags := 1, nameIndex := 5, descriptorIndex := 42, attributes := #[] }, { accessFlags := 1, nameIndex := 95, descriptorIndex := 96, attributes := #[] }, { accessFlags := 1, nameIndex := 26, descriptorIndex := 98, attributes := #[] }] 49 2 #[] #[{ accessFlags := 18, nameIndex := 8, descriptorIndex := 21, attributes := #[] }, { accessFlags := 18, nameIndex := 16, descriptorIndex := 21, attributes := #[] }, { accessFlags := 18, nameIndex := 26, descriptorIndex := 27, attributes := #[] }, { accessFlags := 26, nameIndex := 80, descriptorIndex := 27, attributes := #[] }, { accessFlags := 26, nameIndex := 83, descriptorIndex := 27, attributes := #[] }, { accessFlags := 26, nameIndex := 85, descriptorIndex := 27, attributes := #[] }, { accessFlags := 26, nameIndex := 87, descriptorIndex := 27, attributes := #[] }])
  fields := #[{ name := "topic", type := (.object "java/lang/String"), accessFlags := 18, slot := 0, constantValue := 0 }, { name := "document", type := (.object "java/lang/String"), accessFlags := 18, slot := 1, constantValue := 0 }, { name := "relevance", type := .int, accessFlags := 18, slot := 2, constantValue := 0 }, { name := "FIELDS", type := .int, accessFlags := 26, slot := 0, constantValue := 0 }, { name := "TOPIC_FIELD", type := .int, accessFlags := 26, slot := 1, constantValue := 0 }, { name := "DOCUMENT_FIELD", type := .int, accessFlags := 26, slot := 2, constantValue := 0 }, { name := "RELEVANCE_FIELD", type := .int, accessFlags := 26, slot := 3, constantValue := 0 }]
  methods := #[k3m0, k3m1, k3m2]
  instanceTypes := #[(.object "java/lang/String"), (.object "java/lang/String"), .int]
  staticTypes := #[.int, .int, .int, .int]
  resolved := Array.replicate 130 none
  statics := none }

def pool4 : Array CpInfo := pool [(1, .class_ 2), (0, u "java/io/Serializable"), (0, .class_ 4), (0, u "java/lang/Object")] 2

/-- java/io/Serializable -/
def k4 : Class := { plain "java/io/Serializable" (some 0) with
  accessFlags := 1537
  interfaces := #[]
  cf := some (fileOf pool4 1 #[] #[] 1537 3 #[] #[])
  fields := #[]
  methods := #[]
  instanceTypes := #[]
  staticTypes := #[]
  resolved := Array.replicate 7 none
  statics := none }

def pool5 : Array CpInfo := pool [(1, .class_ 2), (0, u "java/lang/Comparable"), (0, .class_ 4), (0, u "java/lang/Object")] 7

/-- java/lang/Comparable -/
def k5 : Class := { plain "java/lang/Comparable" (some 0) with
  accessFlags := 1537
  interfaces := #[]
  cf := some (fileOf pool5 1 #[] #[] 1537 3 #[] #[])
  fields := #[]
  methods := #[]
  instanceTypes := #[]
  staticTypes := #[]
  resolved := Array.replicate 12 none
  statics := none }

def pool6 : Array CpInfo := pool [(2, .class_ 4), (1, u "java/lang/CharSequence"), (42, .class_ 48), (0, u "java/lang/CharSequence$1CodePointIterator"), (10, .class_ 60), (0, u "java/lang/CharSequence$1CharIterator"), (5, .class_ 67), (0, u "java/lang/Object")] 63

/-- java/lang/CharSequence -/
def k6 : Class := { plain "java/lang/CharSequence" (some 0) with
  accessFlags := 1537
  interfaces := #[]
  cf := some (fileOf pool6 2 #[.nestMembers #[47, 59]] #[] 1537 66 #[] #[])
  fields := #[]
  methods := #[]
  instanceTypes := #[]
  staticTypes := #[]
  resolved := Array.replicate 131 none
  statics := none }

def pool7 : Array CpInfo := pool [(1, .class_ 2), (0, u "java/lang/constant/Constable"), (0, .class_ 4), (0, u "java/lang/Object")] 6

/-- java/lang/constant/Constable -/
def k7 : Class := { plain "java/lang/constant/Constable" (some 0) with
  accessFlags := 1537
  interfaces := #[]
  cf := some (fileOf pool7 1 #[] #[] 1537 3 #[] #[])
  fields := #[]
  methods := #[]
  instanceTypes := #[]
  staticTypes := #[]
  resolved := Array.replicate 11 none
  statics := none }

def pool8 : Array CpInfo := pool [(1, .class_ 2), (0, u "java/lang/constant/ConstantDesc"), (0, .class_ 4), (0, u "java/lang/Object")] 32

/-- java/lang/constant/ConstantDesc -/
def k8 : Class := { plain "java/lang/constant/ConstantDesc" (some 0) with
  accessFlags := 1537
  interfaces := #[]
  cf := some (fileOf pool8 1 #[] #[] 1537 3 #[] #[])
  fields := #[]
  methods := #[]
  instanceTypes := #[]
  staticTypes := #[]
  resolved := Array.replicate 37 none
  statics := none }

def pool9 : Array CpInfo := pool [(1, .methodref 2 3), (0, .class_ 4), (0, .nameAndType 5 6), (0, u "java/lang/Object"), (0, u "<init>"), (0, u "()V"), (2, .fieldref 10 11), (0, .class_ 12), (0, .nameAndType 13 14), (0, u "java/lang/String"), (0, u "value"), (0, u "[B"), (0, .fieldref 10 16), (0, .nameAndType 17 18), (0, u "coder"), (0, u "B"), (2, u "hash"), (0, u "I"), (2, u "hashIsZero"), (0, u "Z"), (0, .methodref 10 28), (0, .nameAndType 5 29), (0, u "([CIILjava/lang/Void;)V"), (8, .fieldref 10 39), (0, .nameAndType 40 26), (0, u "COMPACT_STRINGS"), (1, .class_ 44), (1, u "java/lang/StringUTF16"), (0, u "compress"), (1, .methodref 42 48), (0, .nameAndType 49 50), (0, u "coderFromArrayLen"), (0, u "([BI)B"), (56, .class_ 109), (1, u "java/lang/StringLatin1"), (32, u "()Z"), (34, .methodref 42 178), (0, .nameAndType 45 179), (0, u "([CII)[B"), (154, u "()I"), (0, .methodref 10 336), (0, .nameAndType 17 337), (0, u "()B"), (25, u "([BI)C"), (27, u "(II)V"), (35, u "(I)C"), (64, .methodref 10 493), (0, .nameAndType 494 142), (0, u "isLatin1"), (0, .methodref 107 496), (0, .nameAndType 497 363), (0, u "charAt"), (3, u "checkIndex"), (5, u "length"), (67, .class_ 576), (0, u "java/lang/CharSequence"), (22, u "CASE_INSENSITIVE_ORDER"), (0, u "Ljava/util/Comparator;"), (91, u "isEmpty"), (317, u "([C)V"), (42, .fieldref 1054 1055), (0, .class_ 1056), (0, .nameAndType 1057 1058), (0, u "jdk/internal/util/Preconditions"), (0, u "SIOOBE_FORMATTER"), (0, u "Ljava/util/function/BiFunction;"), (0, .methodref 1054 1060), (0, .nameAndType 501 1061), (0, u "(IILjava/util/function/BiFunction;)I"), (39, u "serialPersistentFields"), (0, u "[Ljava/io/ObjectStreamField;"), (0, .class_ 1104), (0, u "java/lang/String$CaseInsensitiveComparator"), (1, .class_ 1107), (0, u "java/io/Serializable"), (0, .class_ 1109), (0, u "java/lang/Comparable"), (0, .class_ 1111), (0, u "java/lang/constant/Constable"), (0, .class_ 1113), (0, u "java/lang/constant/ConstantDesc"), (2, u "serialVersionUID"), (0, u "J"), (3, u "REPL"), (0, u "C"), (2, u "LATIN1"), (1, u "UTF16")] 323

def k9m0 : Method := { name := "<init>", desc := "()V", sig := { parameters := [], returnType := none }, accessFlags := 1, code := none }
def k9c1 : Code := { maxStack := 5, maxLocals := 2, code := jdk_42_method_3_code, exceptionTable := #[], attributes := #[] }
def k9m1 : Method := { name := "<init>", desc := "([C)V", sig := { parameters := [(.array .char)], returnType := none }, accessFlags := 1, code := some k9c1 }
def k9c2 : Code := { maxStack := 2, maxLocals := 1, code := jdk_42_method_54_code, exceptionTable := #[], attributes := #[] }
def k9m2 : Method := { name := "length", desc := "()I", sig := { parameters := [], returnType := some .int }, accessFlags := 1, code := some k9c2 }
def k9c3 : Code := { maxStack := 1, maxLocals := 1, code := jdk_42_method_55_code, exceptionTable := #[], attributes := #[] }
def k9m3 : Method := { name := "isEmpty", desc := "()Z", sig := { parameters := [], returnType := some .boolean }, accessFlags := 1, code := some k9c3 }
def k9c4 : Code := { maxStack := 2, maxLocals := 2, code := jdk_42_method_56_code, exceptionTable := #[], attributes := #[] }
def k9m4 : Method := { name := "charAt", desc := "(I)C", sig := { parameters := [.int], returnType := some .char }, accessFlags := 1, code := some k9c4 }
def k9c5 : Code := { maxStack := 4, maxLocals := 6, code := jdk_42_method_149_code, exceptionTable := #[], attributes := #[] }
def k9m5 : Method := { name := "<init>", desc := "([CIILjava/lang/Void;)V", sig := { parameters := [(.array .char), .int, .int, (.object "java/lang/Void")], returnType := none }, accessFlags := 2, code := some k9c5 }
def k9c6 : Code := { maxStack := 1, maxLocals := 1, code := jdk_42_method_152_code, exceptionTable := #[], attributes := #[] }
def k9m6 : Method := { name := "coder", desc := "()B", sig := { parameters := [], returnType := some .byte }, accessFlags := 0, code := some k9c6 }
def k9c7 : Code := { maxStack := 1, maxLocals := 1, code := jdk_42_method_154_code, exceptionTable := #[], attributes := #[] }
def k9m7 : Method := { name := "isLatin1", desc := "()Z", sig := { parameters := [], returnType := some .boolean }, accessFlags := 0, code := some k9c7 }
def k9c8 : Code := { maxStack := 3, maxLocals := 2, code := jdk_42_method_155_code, exceptionTable := #[], attributes := #[] }
def k9m8 : Method := { name := "checkIndex", desc := "(II)V", sig := { parameters := [.int, .int], returnType := none }, accessFlags := 8, code := some k9c8 }
/-- java/lang/String -/
def k9 : Class := { plain "java/lang/String" (some 0) with
  accessFlags := 49
  interfaces := #[4, 5, 6, 7, 8]
  cf := some (fileOf pool9 10 #[.nestMembers #[1103]] #[{ accessFlags := 1, nameIndex := 5, descriptorIndex := 6, attributes := #[] }, { accessFlags := 1, nameIndex := 5, descriptorIndex := 1010, attributes := #[] }, { accessFlags := 1, nameIndex := 507, descriptorIndex := 334, attributes := #[] }, { accessFlags := 1, nameIndex := 692, descriptorIndex := 142, attributes := #[] }, { accessFlags := 1, nameIndex := 497, descriptorIndex := 427, attributes := #[] }, { accessFlags := 2, nameIndex := 5, descriptorIndex := 29, attributes := #[] }, { accessFlags := 0, nameIndex := 17, descriptorIndex := 337, attributes := #[] }, { accessFlags := 0, nameIndex := 494, descriptorIndex := 142, attributes := #[] }, { accessFlags := 8, nameIndex := 501, descriptorIndex := 391, attributes := #[] }] 49 2 #[1106, 1108, 575, 1110, 1112] #[{ accessFlags := 18, nameIndex := 13, descriptorIndex := 14, attributes := #[] }, { accessFlags := 18, nameIndex := 17, descriptorIndex := 18, attributes := #[] }, { accessFlags := 2, nameIndex := 21, descriptorIndex := 22, attributes := #[] }, { accessFlags := 2, nameIndex := 25, descriptorIndex := 26, attributes := #[] }, { accessFlags := 26, nameIndex := 1116, descriptorIndex := 1117, attributes := #[] }, { accessFlags := 24, nameIndex := 40, descriptorIndex := 26, attributes := #[] }, { accessFlags := 26, nameIndex := 1101, descriptorIndex := 1102, attributes := #[] }, { accessFlags := 26, nameIndex := 1121, descriptorIndex := 1122, attributes := #[] }, { accessFlags := 25, nameIndex := 599, descriptorIndex := 600, attributes := #[] }, { accessFlags := 24, nameIndex := 1125, descriptorIndex := 18, attributes := #[] }, { accessFlags := 24, nameIndex := 1127, descriptorIndex := 18, attributes := #[] }])
  fields := #[{ name := "value", type := (.array .byte), accessFlags := 18, slot := 0, constantValue := 0 }, { name := "coder", type := .byte, accessFlags := 18, slot := 1, constantValue := 0 }, { name := "hash", type := .int, accessFlags := 2, slot := 2, constantValue := 0 }, { name := "hashIsZero", type := .boolean, accessFlags := 2, slot := 3, constantValue := 0 }, { name := "serialVersionUID", type := .long, accessFlags := 26, slot := 0, constantValue := 0 }, { name := "COMPACT_STRINGS", type := .boolean, accessFlags := 24, slot := 1, constantValue := 0 }, { name := "serialPersistentFields", type := (.array (.object "java/io/ObjectStreamField")), accessFlags := 26, slot := 2, constantValue := 0 }, { name := "REPL", type := .char, accessFlags := 26, slot := 3, constantValue := 0 }, { name := "CASE_INSENSITIVE_ORDER", type := (.object "java/util/Comparator"), accessFlags := 25, slot := 4, constantValue := 0 }, { name := "LATIN1", type := .byte, accessFlags := 24, slot := 5, constantValue := 0 }, { name := "UTF16", type := .byte, accessFlags := 24, slot := 6, constantValue := 0 }]
  methods := #[k9m0, k9m1, k9m2, k9m3, k9m4, k9m5, k9m6, k9m7, k9m8]
  instanceTypes := #[(.array .byte), .byte, .int, .boolean]
  staticTypes := #[.long, .boolean, (.array (.object "java/io/ObjectStreamField")), .char, (.object "java/util/Comparator"), .byte, .byte]
  resolved := Array.replicate 1451 none
  statics := some 0 }

def pool10 : Array CpInfo := pool [(6, .class_ 8), (1, u "java/lang/Object"), (0, u "<init>"), (0, u "()V"), (1, .class_ 14), (1, u "java/lang/StringUTF16"), (31, u "$assertionsDisabled"), (0, u "Z"), (13, u "HI_BYTE_SHIFT"), (0, u "I"), (2, u "LO_BYTE_SHIFT"), (49, .methodref 12 116), (0, .nameAndType 117 118), (0, u "compress"), (0, u "([CI[BII)I"), (3, u "([CII)[B"), (138, u "coderFromArrayLen"), (0, u "([BI)B"), (106, .class_ 371), (1, u "java/lang/StringUTF16$LinesSpliterator"), (58, u "MAX_LENGTH"), (196, .class_ 628), (0, u "java/lang/StringUTF16$CodePointsSpliterator"), (0, .class_ 630), (0, u "java/lang/StringUTF16$CharsSpliterator")] 4

def k10m0 : Method := { name := "<init>", desc := "()V", sig := { parameters := [], returnType := none }, accessFlags := 0, code := none }
def k10c1 : Code := { maxStack := 2, maxLocals := 2, code := jdk_52_method_15_code, exceptionTable := #[], attributes := #[] }
def k10m1 : Method := { name := "coderFromArrayLen", desc := "([BI)B", sig := { parameters := [(.array .byte), .int], returnType := some .byte }, accessFlags := 8, code := some k10c1 }
def k10c2 : Code := { maxStack := 5, maxLocals := 6, code := jdk_52_method_16_code, exceptionTable := #[], attributes := #[] }
def k10m2 : Method := { name := "compress", desc := "([CII)[B", sig := { parameters := [(.array .char), .int, .int], returnType := some (.array .byte) }, accessFlags := 9, code := some k10c2 }
def k10c3 : Code := { maxStack := 3, maxLocals := 7, code := jdk_52_method_21_code, exceptionTable := #[], attributes := #[] }
def k10m3 : Method := { name := "compress", desc := "([CI[BII)I", sig := { parameters := [(.array .char), .int, (.array .byte), .int, .int], returnType := some .int }, accessFlags := 9, code := some k10c3 }
/-- java/lang/StringUTF16 -/
def k10 : Class := { plain "java/lang/StringUTF16" (some 0) with
  accessFlags := 48
  interfaces := #[]
  cf := some (fileOf pool10 12 #[.nestMembers #[627, 629, 369]] #[{ accessFlags := 0, nameIndex := 9, descriptorIndex := 10, attributes := #[] }, { accessFlags := 8, nameIndex := 261, descriptorIndex := 262, attributes := #[] }, { accessFlags := 9, nameIndex := 117, descriptorIndex := 122, attributes := #[] }, { accessFlags := 9, nameIndex := 117, descriptorIndex := 118, attributes := #[] }] 48 6 #[] #[{ accessFlags := 26, nameIndex := 61, descriptorIndex := 62, attributes := #[] }, { accessFlags := 26, nameIndex := 65, descriptorIndex := 62, attributes := #[] }, { accessFlags := 24, nameIndex := 430, descriptorIndex := 62, attributes := #[] }, { accessFlags := 4120, nameIndex := 46, descriptorIndex := 47, attributes := #[] }])
  fields := #[{ name := "HI_BYTE_SHIFT", type := .int, accessFlags := 26, slot := 0, constantValue := 0 }, { name := "LO_BYTE_SHIFT", type := .int, accessFlags := 26, slot := 1, constantValue := 0 }, { name := "MAX_LENGTH", type := .int, accessFlags := 24, slot := 2, constantValue := 0 }, { name := "$assertionsDisabled", type := .boolean, accessFlags := 4120, slot := 3, constantValue := 0 }]
  methods := #[k10m0, k10m1, k10m2, k10m3]
  instanceTypes := #[]
  staticTypes := #[.int, .int, .int, .boolean]
  resolved := Array.replicate 635 none
  statics := none }

def pool11 : Array CpInfo := pool [(2, .class_ 4), (1, u "java/lang/Object"), (3, .class_ 10), (1, u "com/example/fusionutils/fusionutils/Fields"), (0, u "bounds"), (0, u "[I"), (9, u "line"), (0, u "Ljava/lang/CharSequence;"), (2, .nameAndType 28 29), (1, u "length"), (0, u "()I"), (1, .nameAndType 32 33), (0, u "charAt"), (0, u "(I)C"), (3, u "(C)Z"), (28, .methodref 67 26), (0, .class_ 68), (0, u "java/lang/String"), (0, .methodref 67 31), (4, .methodref 75 76), (0, .class_ 77), (0, .nameAndType 78 79), (0, u "java/util/Objects"), (0, u "requireNonNull"), (0, u "(Ljava/lang/Object;Ljava/lang/String;)Ljava/lang/Object;"), (0, .methodref 8 81), (0, .nameAndType 82 83), (0, u "isField"), (0, u "(Ljava/lang/String;)Z"), (23, u "EXACT_POWERS_OF_TEN"), (0, u "[D"), (23, u "INTEGER"), (0, u "Ljava/util/regex/Pattern;"), (11, u "()Z"), (7, .methodref 67 154), (0, .nameAndType 155 145), (0, u "isEmpty"), (0, .methodref 8 157), (0, .nameAndType 158 37), (0, u "isBarred"), (0, .integer 65279), (73, u "BYTE_ORDER_MARK"), (0, u "C"), (1, u "NEXT_LINE"), (1, u "EXACT_SIGNIFICAND"), (0, u "J"), (2, u "EXPONENT_BOUND"), (0, u "I"), (0, u "OUT_OF_RANGE"), (0, u "Ljava/lang/String;"), (15, u "requireId"), (0, u "(Ljava/lang/String;Ljava/lang/String;)V")] 30

def k11c0 : Code := { maxStack := 4, maxLocals := 2, code := prog_7_method_10_code, exceptionTable := #[], attributes := #[] }
def k11m0 : Method := { name := "requireId", desc := "(Ljava/lang/String;Ljava/lang/String;)V", sig := { parameters := [(.object "java/lang/String"), (.object "java/lang/String")], returnType := none }, accessFlags := 8, code := some k11c0 }
def k11c1 : Code := { maxStack := 2, maxLocals := 2, code := prog_7_method_16_code, exceptionTable := #[], attributes := #[] }
def k11m1 : Method := { name := "isField", desc := "(Ljava/lang/String;)Z", sig := { parameters := [(.object "java/lang/String")], returnType := some .boolean }, accessFlags := 8, code := some k11c1 }
def k11c2 : Code := { maxStack := 2, maxLocals := 1, code := prog_7_method_19_code, exceptionTable := #[], attributes := #[] }
def k11m2 : Method := { name := "isBarred", desc := "(C)Z", sig := { parameters := [.char], returnType := some .boolean }, accessFlags := 10, code := some k11c2 }
/-- com/example/fusionutils/fusionutils/Fields -/
def k11 : Class := { plain "com/example/fusionutils/fusionutils/Fields" (some 0) with
  accessFlags := 48
  interfaces := #[]
  cf := some (fileOf pool11 8 #[] #[{ accessFlags := 8, nameIndex := 261, descriptorIndex := 262, attributes := #[] }, { accessFlags := 8, nameIndex := 82, descriptorIndex := 83, attributes := #[] }, { accessFlags := 10, nameIndex := 158, descriptorIndex := 37, attributes := #[] }] 48 2 #[] #[{ accessFlags := 24, nameIndex := 233, descriptorIndex := 234, attributes := #[] }, { accessFlags := 26, nameIndex := 236, descriptorIndex := 234, attributes := #[] }, { accessFlags := 26, nameIndex := 238, descriptorIndex := 239, attributes := #[] }, { accessFlags := 26, nameIndex := 107, descriptorIndex := 108, attributes := #[] }, { accessFlags := 26, nameIndex := 242, descriptorIndex := 243, attributes := #[] }, { accessFlags := 26, nameIndex := 132, descriptorIndex := 133, attributes := #[] }, { accessFlags := 26, nameIndex := 244, descriptorIndex := 245, attributes := #[] }, { accessFlags := 2, nameIndex := 22, descriptorIndex := 23, attributes := #[] }, { accessFlags := 18, nameIndex := 11, descriptorIndex := 12, attributes := #[] }])
  fields := #[{ name := "BYTE_ORDER_MARK", type := .char, accessFlags := 24, slot := 0, constantValue := 0 }, { name := "NEXT_LINE", type := .char, accessFlags := 26, slot := 1, constantValue := 0 }, { name := "EXACT_SIGNIFICAND", type := .long, accessFlags := 26, slot := 2, constantValue := 0 }, { name := "EXACT_POWERS_OF_TEN", type := (.array .double), accessFlags := 26, slot := 3, constantValue := 0 }, { name := "EXPONENT_BOUND", type := .int, accessFlags := 26, slot := 4, constantValue := 0 }, { name := "INTEGER", type := (.object "java/util/regex/Pattern"), accessFlags := 26, slot := 5, constantValue := 0 }, { name := "OUT_OF_RANGE", type := (.object "java/lang/String"), accessFlags := 26, slot := 6, constantValue := 0 }, { name := "line", type := (.object "java/lang/CharSequence"), accessFlags := 2, slot := 0, constantValue := 0 }, { name := "bounds", type := (.array .int), accessFlags := 18, slot := 1, constantValue := 0 }]
  methods := #[k11m0, k11m1, k11m2]
  instanceTypes := #[(.object "java/lang/CharSequence"), (.array .int)]
  staticTypes := #[.char, .char, .long, (.array .double), .int, (.object "java/util/regex/Pattern"), (.object "java/lang/String")]
  resolved := Array.replicate 293 none
  statics := none }

def pool12 : Array CpInfo := pool [(2, .class_ 4), (1, u "java/lang/Object"), (0, u "<init>"), (0, u "()V"), (35, .class_ 44), (1, u "java/util/Objects"), (0, u "requireNonNull"), (48, u "(Ljava/lang/Object;Ljava/lang/String;)Ljava/lang/Object;")] 89

def k12m0 : Method := { name := "<init>", desc := "()V", sig := { parameters := [], returnType := none }, accessFlags := 2, code := none }
def k12c1 : Code := { maxStack := 3, maxLocals := 2, code := jdk_31_method_11_code, exceptionTable := #[], attributes := #[] }
def k12m1 : Method := { name := "requireNonNull", desc := "(Ljava/lang/Object;Ljava/lang/String;)Ljava/lang/Object;", sig := { parameters := [(.object "java/lang/Object"), (.object "java/lang/String")], returnType := some (.object "java/lang/Object") }, accessFlags := 9, code := some k12c1 }
/-- java/util/Objects -/
def k12 : Class := { plain "java/util/Objects" (some 0) with
  accessFlags := 49
  interfaces := #[]
  cf := some (fileOf pool12 42 #[] #[{ accessFlags := 2, nameIndex := 5, descriptorIndex := 6, attributes := #[] }, { accessFlags := 9, nameIndex := 45, descriptorIndex := 94, attributes := #[] }] 49 2 #[] #[])
  fields := #[]
  methods := #[k12m0, k12m1]
  instanceTypes := #[]
  staticTypes := #[]
  resolved := Array.replicate 184 none
  statics := none }

def pool13 : Array CpInfo := pool [(1, .class_ 2), (0, u "java/lang/String"), (1, .class_ 6), (1, u "java/lang/Object"), (0, u "<init>"), (0, u "()V"), (0, .methodref 1 10), (0, .nameAndType 11 12), (0, u "checkIndex"), (0, u "(II)V"), (1, .class_ 16), (1, u "java/lang/StringLatin1"), (36, u "([BI)C"), (67, u "$assertionsDisabled"), (0, u "Z"), (98, .class_ 223), (1, u "java/lang/StringLatin1$LinesSpliterator"), (28, u "charAt"), (137, .class_ 391), (0, u "java/lang/StringLatin1$CharsSpliterator")] 3

def k13m0 : Method := { name := "<init>", desc := "()V", sig := { parameters := [], returnType := none }, accessFlags := 0, code := none }
def k13c1 : Code := { maxStack := 2, maxLocals := 2, code := jdk_43_method_2_code, exceptionTable := #[], attributes := #[] }
def k13m1 : Method := { name := "charAt", desc := "([BI)C", sig := { parameters := [(.array .byte), .int], returnType := some .char }, accessFlags := 9, code := some k13c1 }
/-- java/lang/StringLatin1 -/
def k13 : Class := { plain "java/lang/StringLatin1" (some 0) with
  accessFlags := 48
  interfaces := #[]
  cf := some (fileOf pool13 14 #[.nestMembers #[390, 221]] #[{ accessFlags := 0, nameIndex := 7, descriptorIndex := 8, attributes := #[] }, { accessFlags := 9, nameIndex := 252, descriptorIndex := 53, attributes := #[] }] 48 4 #[] #[{ accessFlags := 4120, nameIndex := 121, descriptorIndex := 122, attributes := #[] }])
  fields := #[{ name := "$assertionsDisabled", type := .boolean, accessFlags := 4120, slot := 0, constantValue := 0 }]
  methods := #[k13m0, k13m1]
  instanceTypes := #[]
  staticTypes := #[.boolean]
  resolved := Array.replicate 395 none
  statics := none }

def pool14 : Array CpInfo := pool [(2, .class_ 4), (1, u "java/lang/Object"), (0, u "<init>"), (0, u "()V"), (17, .class_ 26), (1, u "jdk/internal/util/Preconditions"), (6, u "checkIndex"), (21, .class_ 56), (0, u "jdk/internal/util/Preconditions$4"), (57, .class_ 115), (0, u "jdk/internal/util/Preconditions$1"), (7, u "SIOOBE_FORMATTER"), (0, u "Ljava/util/function/BiFunction;"), (0, .class_ 126), (0, u "jdk/internal/util/Preconditions$2"), (3, u "AIOOBE_FORMATTER"), (0, .class_ 132), (0, u "jdk/internal/util/Preconditions$3"), (3, u "IOOBE_FORMATTER"), (41, u "(IILjava/util/function/BiFunction;)I")] 15

def k14m0 : Method := { name := "<init>", desc := "()V", sig := { parameters := [], returnType := none }, accessFlags := 1, code := none }
def k14c1 : Code := { maxStack := 3, maxLocals := 3, code := jdk_41_method_11_code, exceptionTable := #[], attributes := #[] }
def k14m1 : Method := { name := "checkIndex", desc := "(IILjava/util/function/BiFunction;)I", sig := { parameters := [.int, .int, (.object "java/util/function/BiFunction")], returnType := some .int }, accessFlags := 9, code := some k14c1 }
/-- jdk/internal/util/Preconditions -/
def k14 : Class := { plain "jdk/internal/util/Preconditions" (some 0) with
  accessFlags := 33
  interfaces := #[]
  cf := some (fileOf pool14 24 #[.nestMembers #[55, 131, 125, 114]] #[{ accessFlags := 1, nameIndex := 5, descriptorIndex := 6, attributes := #[] }, { accessFlags := 9, nameIndex := 33, descriptorIndex := 178, attributes := #[] }] 33 2 #[] #[{ accessFlags := 25, nameIndex := 123, descriptorIndex := 124, attributes := #[] }, { accessFlags := 25, nameIndex := 130, descriptorIndex := 124, attributes := #[] }, { accessFlags := 25, nameIndex := 136, descriptorIndex := 124, attributes := #[] }])
  fields := #[{ name := "SIOOBE_FORMATTER", type := (.object "java/util/function/BiFunction"), accessFlags := 25, slot := 0, constantValue := 0 }, { name := "AIOOBE_FORMATTER", type := (.object "java/util/function/BiFunction"), accessFlags := 25, slot := 1, constantValue := 0 }, { name := "IOOBE_FORMATTER", type := (.object "java/util/function/BiFunction"), accessFlags := 25, slot := 2, constantValue := 0 }]
  methods := #[k14m0, k14m1]
  instanceTypes := #[]
  staticTypes := #[(.object "java/util/function/BiFunction"), (.object "java/util/function/BiFunction"), (.object "java/util/function/BiFunction")]
  resolved := Array.replicate 194 none
  statics := some 1 }

def pool15 : Array CpInfo := pool [(9, u "<init>"), (6, .class_ 18), (1, u "java/lang/Object"), (0, u "()V"), (1, .class_ 23), (1, u "jdk/internal/util/ArraysSupport"), (0, u "LOG2_ARRAY_LONG_INDEX_SCALE"), (0, u "I"), (2, u "U"), (0, u "Ljdk/internal/misc/Unsafe;"), (8, u "BIG_ENDIAN"), (0, u "Z"), (8, u "LOG2_BYTE_BIT_SIZE"), (4, u "LOG2_ARRAY_INT_INDEX_SCALE"), (54, u "JLA"), (0, u "Ljdk/internal/access/JavaLangAccess;"), (11, u "LOG2_ARRAY_BOOLEAN_INDEX_SCALE"), (9, u "LOG2_ARRAY_BYTE_INDEX_SCALE"), (5, u "LOG2_ARRAY_CHAR_INDEX_SCALE"), (5, u "LOG2_ARRAY_SHORT_INDEX_SCALE"), (18, u "LOG2_ARRAY_FLOAT_INDEX_SCALE"), (24, u "LOG2_ARRAY_DOUBLE_INDEX_SCALE"), (89, u "T_BOOLEAN"), (2, u "T_CHAR"), (1, u "T_FLOAT"), (1, u "T_DOUBLE"), (1, u "T_BYTE"), (1, u "T_SHORT"), (1, u "T_INT"), (1, u "T_LONG"), (1, u "SOFT_MAX_ARRAY_LENGTH")] 83

def k15m0 : Method := { name := "<init>", desc := "()V", sig := { parameters := [], returnType := none }, accessFlags := 2, code := none }
/-- jdk/internal/util/ArraysSupport -/
def k15 : Class := { plain "jdk/internal/util/ArraysSupport" (some 0) with
  accessFlags := 33
  interfaces := #[]
  cf := some (fileOf pool15 21 #[] #[{ accessFlags := 2, nameIndex := 9, descriptorIndex := 19, attributes := #[] }] 33 16 #[] #[{ accessFlags := 24, nameIndex := 28, descriptorIndex := 29, attributes := #[] }, { accessFlags := 26, nameIndex := 38, descriptorIndex := 39, attributes := #[] }, { accessFlags := 25, nameIndex := 121, descriptorIndex := 25, attributes := #[] }, { accessFlags := 25, nameIndex := 131, descriptorIndex := 25, attributes := #[] }, { accessFlags := 25, nameIndex := 137, descriptorIndex := 25, attributes := #[] }, { accessFlags := 25, nameIndex := 143, descriptorIndex := 25, attributes := #[] }, { accessFlags := 25, nameIndex := 53, descriptorIndex := 25, attributes := #[] }, { accessFlags := 25, nameIndex := 24, descriptorIndex := 25, attributes := #[] }, { accessFlags := 25, nameIndex := 162, descriptorIndex := 25, attributes := #[] }, { accessFlags := 25, nameIndex := 187, descriptorIndex := 25, attributes := #[] }, { accessFlags := 26, nameIndex := 48, descriptorIndex := 25, attributes := #[] }, { accessFlags := 25, nameIndex := 277, descriptorIndex := 25, attributes := #[] }, { accessFlags := 25, nameIndex := 280, descriptorIndex := 25, attributes := #[] }, { accessFlags := 25, nameIndex := 282, descriptorIndex := 25, attributes := #[] }, { accessFlags := 25, nameIndex := 284, descriptorIndex := 25, attributes := #[] }, { accessFlags := 25, nameIndex := 286, descriptorIndex := 25, attributes := #[] }, { accessFlags := 25, nameIndex := 288, descriptorIndex := 25, attributes := #[] }, { accessFlags := 25, nameIndex := 290, descriptorIndex := 25, attributes := #[] }, { accessFlags := 25, nameIndex := 292, descriptorIndex := 25, attributes := #[] }, { accessFlags := 26, nameIndex := 108, descriptorIndex := 109, attributes := #[] }, { accessFlags := 25, nameIndex := 294, descriptorIndex := 25, attributes := #[] }])
  fields := #[{ name := "U", type := (.object "jdk/internal/misc/Unsafe"), accessFlags := 24, slot := 0, constantValue := 0 }, { name := "BIG_ENDIAN", type := .boolean, accessFlags := 26, slot := 1, constantValue := 0 }, { name := "LOG2_ARRAY_BOOLEAN_INDEX_SCALE", type := .int, accessFlags := 25, slot := 2, constantValue := 0 }, { name := "LOG2_ARRAY_BYTE_INDEX_SCALE", type := .int, accessFlags := 25, slot := 3, constantValue := 0 }, { name := "LOG2_ARRAY_CHAR_INDEX_SCALE", type := .int, accessFlags := 25, slot := 4, constantValue := 0 }, { name := "LOG2_ARRAY_SHORT_INDEX_SCALE", type := .int, accessFlags := 25, slot := 5, constantValue := 0 }, { name := "LOG2_ARRAY_INT_INDEX_SCALE", type := .int, accessFlags := 25, slot := 6, constantValue := 0 }, { name := "LOG2_ARRAY_LONG_INDEX_SCALE", type := .int, accessFlags := 25, slot := 7, constantValue := 0 }, { name := "LOG2_ARRAY_FLOAT_INDEX_SCALE", type := .int, accessFlags := 25, slot := 8, constantValue := 0 }, { name := "LOG2_ARRAY_DOUBLE_INDEX_SCALE", type := .int, accessFlags := 25, slot := 9, constantValue := 0 }, { name := "LOG2_BYTE_BIT_SIZE", type := .int, accessFlags := 26, slot := 10, constantValue := 0 }, { name := "T_BOOLEAN", type := .int, accessFlags := 25, slot := 11, constantValue := 0 }, { name := "T_CHAR", type := .int, accessFlags := 25, slot := 12, constantValue := 0 }, { name := "T_FLOAT", type := .int, accessFlags := 25, slot := 13, constantValue := 0 }, { name := "T_DOUBLE", type := .int, accessFlags := 25, slot := 14, constantValue := 0 }, { name := "T_BYTE", type := .int, accessFlags := 25, slot := 15, constantValue := 0 }, { name := "T_SHORT", type := .int, accessFlags := 25, slot := 16, constantValue := 0 }, { name := "T_INT", type := .int, accessFlags := 25, slot := 17, constantValue := 0 }, { name := "T_LONG", type := .int, accessFlags := 25, slot := 18, constantValue := 0 }, { name := "JLA", type := (.object "jdk/internal/access/JavaLangAccess"), accessFlags := 26, slot := 19, constantValue := 0 }, { name := "SOFT_MAX_ARRAY_LENGTH", type := .int, accessFlags := 25, slot := 20, constantValue := 0 }]
  methods := #[k15m0]
  instanceTypes := #[]
  staticTypes := #[(.object "jdk/internal/misc/Unsafe"), .boolean, .int, .int, .int, .int, .int, .int, .int, .int, .int, .int, .int, .int, .int, .int, .int, .int, .int, (.object "jdk/internal/access/JavaLangAccess"), .int]
  resolved := Array.replicate 378 none
  statics := none }

def pool16 : Array CpInfo := pool [(1, u "java/lang/Cloneable"), (0, .class_ 1), (0, u "java/lang/Object"), (0, .class_ 3)] 3

/-- java/lang/Cloneable -/
def k16 : Class := { plain "java/lang/Cloneable" (some 0) with
  accessFlags := 1537
  interfaces := #[]
  cf := some (fileOf pool16 2 #[] #[] 1537 4 #[] #[])
  fields := #[]
  methods := #[]
  instanceTypes := #[]
  staticTypes := #[]
  resolved := Array.replicate 8 none
  statics := none }

/-- the primitive byte -/
def k17 : Class := { plain "byte" none with kind := .primitive 'B', accessFlags := 0x411 }
/-- [B -/
def k18 : Class := { plain "[B" (some 0) with kind := .array 17 .byte, interfaces := #[16, 4], accessFlags := 1041 }

/-- the primitive char -/
def k19 : Class := { plain "char" none with kind := .primitive 'C', accessFlags := 0x411 }
/-- [C -/
def k20 : Class := { plain "[C" (some 0) with kind := .array 19 .char, interfaces := #[16, 4], accessFlags := 1041 }

/-- the primitive int -/
def k21 : Class := { plain "int" none with kind := .primitive 'I', accessFlags := 0x411 }
/-- [I -/
def k22 : Class := { plain "[I" (some 0) with kind := .array 21 .int, interfaces := #[16, 4], accessFlags := 1041 }

def heap : Heap := #[{ cls := 9, slots := #[.long 0, .int 1, .null, .int 0, .null, .int 0, .int 0], vm := .statics 9 },
  { cls := 14, slots := #[.null, .null, .null], vm := .statics 14 }]
def classes : Array Class := #[k0, k1, k2, k3, k4, k5, k6, k7, k8, k9, k10, k11, k12, k13, k14, k15, k16, k17, k18, k19, k20, k21, k22]
def interned : List (Array UInt16 × Addr) := []
def slotsUsed : Nat := 10
def theMethod : MethodId := ⟨1, 2⟩
def args0 : Array Value := #[.int 5, .int 7, .int 9]
def aboutOver (below : List Frame) : State where
  vm := { classes := classes, interned := interned.toArray }
  heap := heap
  slotsUsed := slotsUsed
  threads := #[{ frames := .invoking theMethod args0 :: below }]
def below0 : List Frame := [.native { method := ⟨0, 0⟩, args := #[] }]
def about1 : State := aboutOver below0
def p0 : Program := .bare "" "" ""
def e0 : Env := launch0.env 0 0 0
theorem w_frames : about1.frames = Frame.invoking theMethod args0 :: below0 := rfl
set_option maxRecDepth 65536 in
theorem w_args : argsFit about1.vm theMethod args0 = true := by decide +kernel
set_option maxRecDepth 65536 in
theorem w_heap : heapFits about1 = true := by decide +kernel
set_option maxRecDepth 65536 in
theorem w_runnable : about1.curStatus? = some .runnable := by decide +kernel
set_option maxRecDepth 65536 in
theorem w_alone : about1.alone = true := by decide +kernel
set_option maxRecDepth 65536 in
theorem w_named : about1.methodNamed? x = some theMethod := by decide +kernel
set_option maxRecDepth 65536 in
theorem w_hears : about1.hears theMethod below0 = true := by decide +kernel
set_option maxRecDepth 65536 in
theorem w_ripe : about1.ripe theMethod args0 below0 = true := by decide +kernel
theorem w_running : about1.status = .running := rfl
set_option maxRecDepth 65536 in
theorem w_room : about1.hasRoom e0.platform room_1 = true :=
  launch0.hasRoom_least _ room_1 (by decide +kernel) (by decide +kernel) (by decide +kernel) (by decide +kernel) (by decide +kernel) (by decide +kernel)
theorem allAtoms_all (ts : List Jvm.Cond) (a : Array Jvm.Value) (st : Jvm.State) : (allAtoms ts).before a st = ts.all (fun c => c.before a st) := by
  induction ts with
  | nil => rfl
  | cons c t ih =>
    show (Jvm.Cond.and c (allAtoms t)).before a st = _
    rw [Jvm.Cond.before_and, ih, List.all_cons]
def words1 : List Jvm.Cond := Jvm.Cond.code x code maxLocals ret :: tables_1
/-- a 'code' word, met by the world's own term for the bytes: nothing is compared byte by byte -/
theorem code_word {y : MethodName} {bytes : ByteArray} {mx : Nat} {rt : Option FieldType} {a : Array Value} {s : State} {m : MethodId} {meth : Method} {c : Code} (h1 : s.methodNamed? y = some m) (h2 : s.vm.method? m = some meth) (h3 : meth.code = some c) (h4 : c.code = bytes)
    (h5 : (c.maxLocals == mx && c.exceptionTable.isEmpty && decide (c.maxStack ≤ mostOperands) && decide (meth.sig.returnType = rt) && !meth.locks && decide (parseMethodDescriptor y.desc = some meth.sig)) = true) : (Jvm.Cond.code y bytes mx rt).before a s = true := by
  simp only [Bool.and_eq_true, beq_iff_eq, Bool.not_eq_true', decide_eq_true_eq] at h5
  obtain ⟨⟨⟨⟨⟨g1, g2⟩, g3⟩, g4⟩, g5⟩, g6⟩ := h5
  simp [Cond.before, Cond.holds, Cond.value, h1, h2, h3, h4, g1, g2, g3, g4, g5, g6]
def isCode : Jvm.Cond → Bool
  | .code _ _ _ _ => true
  | _ => false
theorem all_split {L : List Jvm.Cond} {P : Jvm.Cond → Bool} (h1 : L.all (fun c => isCode c || P c) = true) (h2 : ∀ c ∈ L.filter isCode, P c = true) : L.all P = true := by
  refine List.all_eq_true.mpr fun c hc => ?_
  have h := List.all_eq_true.mp h1 c hc
  rcases Bool.eq_false_or_eq_true (isCode c) with hi | hi
  · exact h2 c (List.mem_filter.mpr ⟨hc, hi⟩)
  · simpa [hi] using h
set_option maxRecDepth 65536 in
theorem w_c0 : (Jvm.Cond.code x code maxLocals ret).before args0 about1 = true := code_word (m := ⟨1, 2⟩) (meth := k1m2) (c := k1c2) (by decide +kernel) rfl rfl rfl (by decide +kernel)
set_option maxRecDepth 65536 in
theorem w_c1 : (Jvm.Cond.code ({ cls := "com/example/fusionutils/fusionutils/JudgementIsRelevantPinLaw", name := "visible", desc := "(I)C" } : Jvm.MethodName) method_2_code (1 : Nat) (Option.some Jvm.ClassFile.FieldType.char)).before args0 about1 = true := code_word (m := ⟨1, 1⟩) (meth := k1m1) (c := k1c1) (by decide +kernel) rfl rfl rfl (by decide +kernel)
set_option maxRecDepth 65536 in
theorem w_c2 : (Jvm.Cond.code ({ cls := "java/lang/String", name := "<init>", desc := "([C)V" } : Jvm.MethodName) jdk_42_method_3_code (2 : Nat) (Option.none : Option Jvm.ClassFile.FieldType)).before args0 about1 = true := code_word (m := ⟨9, 1⟩) (meth := k9m1) (c := k9c1) (by decide +kernel) rfl rfl rfl (by decide +kernel)
set_option maxRecDepth 65536 in
theorem w_c3 : (Jvm.Cond.code ({ cls := "java/lang/String", name := "<init>", desc := "([CIILjava/lang/Void;)V" } : Jvm.MethodName) jdk_42_method_149_code (6 : Nat) (Option.none : Option Jvm.ClassFile.FieldType)).before args0 about1 = true := code_word (m := ⟨9, 5⟩) (meth := k9m5) (c := k9c5) (by decide +kernel) rfl rfl rfl (by decide +kernel)
set_option maxRecDepth 65536 in
theorem w_c4 : (Jvm.Cond.code ({ cls := "java/lang/Object", name := "<init>", desc := "()V" } : Jvm.MethodName) object_method_1_code (1 : Nat) (Option.none : Option Jvm.ClassFile.FieldType)).before args0 about1 = true := code_word (m := ⟨0, 0⟩) (meth := k0m0) (c := k0c0) (by decide +kernel) rfl rfl rfl (by decide +kernel)
set_option maxRecDepth 65536 in
theorem w_c5 : (Jvm.Cond.code ({ cls := "java/lang/StringUTF16", name := "compress", desc := "([CII)[B" } : Jvm.MethodName) jdk_52_method_16_code (6 : Nat) (Option.some (Jvm.ClassFile.FieldType.array Jvm.ClassFile.FieldType.byte))).before args0 about1 = true := code_word (m := ⟨10, 2⟩) (meth := k10m2) (c := k10c2) (by decide +kernel) rfl rfl rfl (by decide +kernel)
set_option maxRecDepth 65536 in
theorem w_c6 : (Jvm.Cond.code ({ cls := "java/lang/StringUTF16", name := "compress", desc := "([CI[BII)I" } : Jvm.MethodName) jdk_52_method_21_code (7 : Nat) (Option.some Jvm.ClassFile.FieldType.int)).before args0 about1 = true := code_word (m := ⟨10, 3⟩) (meth := k10m3) (c := k10c3) (by decide +kernel) rfl rfl rfl (by decide +kernel)
set_option maxRecDepth 65536 in
theorem w_c7 : (Jvm.Cond.code ({ cls := "java/lang/StringUTF16", name := "coderFromArrayLen", desc := "([BI)B" } : Jvm.MethodName) jdk_52_method_15_code (2 : Nat) (Option.some Jvm.ClassFile.FieldType.byte)).before args0 about1 = true := code_word (m := ⟨10, 1⟩) (meth := k10m1) (c := k10c1) (by decide +kernel) rfl rfl rfl (by decide +kernel)
set_option maxRecDepth 65536 in
theorem w_c8 : (Jvm.Cond.code ({ cls := "com/example/fusionutils/fusionutils/Judgement", name := "<init>", desc := "(Ljava/lang/String;Ljava/lang/String;I)V" } : Jvm.MethodName) prog_17_method_1_code (4 : Nat) (Option.none : Option Jvm.ClassFile.FieldType)).before args0 about1 = true := code_word (m := ⟨3, 0⟩) (meth := k3m0) (c := k3c0) (by decide +kernel) rfl rfl rfl (by decide +kernel)
set_option maxRecDepth 65536 in
theorem w_c9 : (Jvm.Cond.code ({ cls := "java/lang/Record", name := "<init>", desc := "()V" } : Jvm.MethodName) jdk_30_method_1_code (1 : Nat) (Option.none : Option Jvm.ClassFile.FieldType)).before args0 about1 = true := code_word (m := ⟨2, 0⟩) (meth := k2m0) (c := k2c0) (by decide +kernel) rfl rfl rfl (by decide +kernel)
set_option maxRecDepth 65536 in
theorem w_c10 : (Jvm.Cond.code ({ cls := "com/example/fusionutils/fusionutils/Fields", name := "requireId", desc := "(Ljava/lang/String;Ljava/lang/String;)V" } : Jvm.MethodName) prog_7_method_10_code (2 : Nat) (Option.none : Option Jvm.ClassFile.FieldType)).before args0 about1 = true := code_word (m := ⟨11, 0⟩) (meth := k11m0) (c := k11c0) (by decide +kernel) rfl rfl rfl (by decide +kernel)
set_option maxRecDepth 65536 in
theorem w_c11 : (Jvm.Cond.code ({ cls := "java/util/Objects", name := "requireNonNull", desc := "(Ljava/lang/Object;Ljava/lang/String;)Ljava/lang/Object;" } : Jvm.MethodName) jdk_31_method_11_code (2 : Nat) (Option.some (Jvm.ClassFile.FieldType.object "java/lang/Object"))).before args0 about1 = true := code_word (m := ⟨12, 1⟩) (meth := k12m1) (c := k12c1) (by decide +kernel) rfl rfl rfl (by decide +kernel)
set_option maxRecDepth 65536 in
theorem w_c12 : (Jvm.Cond.code ({ cls := "com/example/fusionutils/fusionutils/Fields", name := "isField", desc := "(Ljava/lang/String;)Z" } : Jvm.MethodName) prog_7_method_16_code (2 : Nat) (Option.some Jvm.ClassFile.FieldType.boolean)).before args0 about1 = true := code_word (m := ⟨11, 1⟩) (meth := k11m1) (c := k11c1) (by decide +kernel) rfl rfl rfl (by decide +kernel)
set_option maxRecDepth 65536 in
theorem w_c13 : (Jvm.Cond.code ({ cls := "java/lang/String", name := "isEmpty", desc := "()Z" } : Jvm.MethodName) jdk_42_method_55_code (1 : Nat) (Option.some Jvm.ClassFile.FieldType.boolean)).before args0 about1 = true := code_word (m := ⟨9, 3⟩) (meth := k9m3) (c := k9c3) (by decide +kernel) rfl rfl rfl (by decide +kernel)
set_option maxRecDepth 65536 in
theorem w_c14 : (Jvm.Cond.code ({ cls := "java/lang/String", name := "length", desc := "()I" } : Jvm.MethodName) jdk_42_method_54_code (1 : Nat) (Option.some Jvm.ClassFile.FieldType.int)).before args0 about1 = true := code_word (m := ⟨9, 2⟩) (meth := k9m2) (c := k9c2) (by decide +kernel) rfl rfl rfl (by decide +kernel)
set_option maxRecDepth 65536 in
theorem w_c15 : (Jvm.Cond.code ({ cls := "java/lang/String", name := "coder", desc := "()B" } : Jvm.MethodName) jdk_42_method_152_code (1 : Nat) (Option.some Jvm.ClassFile.FieldType.byte)).before args0 about1 = true := code_word (m := ⟨9, 6⟩) (meth := k9m6) (c := k9c6) (by decide +kernel) rfl rfl rfl (by decide +kernel)
set_option maxRecDepth 65536 in
theorem w_c16 : (Jvm.Cond.code ({ cls := "java/lang/String", name := "charAt", desc := "(I)C" } : Jvm.MethodName) jdk_42_method_56_code (2 : Nat) (Option.some Jvm.ClassFile.FieldType.char)).before args0 about1 = true := code_word (m := ⟨9, 4⟩) (meth := k9m4) (c := k9c4) (by decide +kernel) rfl rfl rfl (by decide +kernel)
set_option maxRecDepth 65536 in
theorem w_c17 : (Jvm.Cond.code ({ cls := "java/lang/String", name := "isLatin1", desc := "()Z" } : Jvm.MethodName) jdk_42_method_154_code (1 : Nat) (Option.some Jvm.ClassFile.FieldType.boolean)).before args0 about1 = true := code_word (m := ⟨9, 7⟩) (meth := k9m7) (c := k9c7) (by decide +kernel) rfl rfl rfl (by decide +kernel)
set_option maxRecDepth 65536 in
theorem w_c18 : (Jvm.Cond.code ({ cls := "java/lang/StringLatin1", name := "charAt", desc := "([BI)C" } : Jvm.MethodName) jdk_43_method_2_code (2 : Nat) (Option.some Jvm.ClassFile.FieldType.char)).before args0 about1 = true := code_word (m := ⟨13, 1⟩) (meth := k13m1) (c := k13c1) (by decide +kernel) rfl rfl rfl (by decide +kernel)
set_option maxRecDepth 65536 in
theorem w_c19 : (Jvm.Cond.code ({ cls := "java/lang/String", name := "checkIndex", desc := "(II)V" } : Jvm.MethodName) jdk_42_method_155_code (2 : Nat) (Option.none : Option Jvm.ClassFile.FieldType)).before args0 about1 = true := code_word (m := ⟨9, 8⟩) (meth := k9m8) (c := k9c8) (by decide +kernel) rfl rfl rfl (by decide +kernel)
set_option maxRecDepth 65536 in
theorem w_c20 : (Jvm.Cond.code ({ cls := "jdk/internal/util/Preconditions", name := "checkIndex", desc := "(IILjava/util/function/BiFunction;)I" } : Jvm.MethodName) jdk_41_method_11_code (3 : Nat) (Option.some Jvm.ClassFile.FieldType.int)).before args0 about1 = true := code_word (m := ⟨14, 1⟩) (meth := k14m1) (c := k14c1) (by decide +kernel) rfl rfl rfl (by decide +kernel)
set_option maxRecDepth 65536 in
theorem w_c21 : (Jvm.Cond.code ({ cls := "com/example/fusionutils/fusionutils/Fields", name := "isBarred", desc := "(C)Z" } : Jvm.MethodName) prog_7_method_19_code (1 : Nat) (Option.some Jvm.ClassFile.FieldType.boolean)).before args0 about1 = true := code_word (m := ⟨11, 2⟩) (meth := k11m2) (c := k11c2) (by decide +kernel) rfl rfl rfl (by decide +kernel)
set_option maxRecDepth 65536 in
theorem w_c22 : (Jvm.Cond.code ({ cls := "com/example/fusionutils/fusionutils/Judgement", name := "isRelevant", desc := "()Z" } : Jvm.MethodName) prog_17_method_3_code (1 : Nat) (Option.some Jvm.ClassFile.FieldType.boolean)).before args0 about1 = true := code_word (m := ⟨3, 1⟩) (meth := k3m1) (c := k3c1) (by decide +kernel) rfl rfl rfl (by decide +kernel)
set_option maxRecDepth 65536 in
theorem w_c23 : (Jvm.Cond.code ({ cls := "com/example/fusionutils/fusionutils/Judgement", name := "relevance", desc := "()I" } : Jvm.MethodName) prog_17_method_10_code (1 : Nat) (Option.some Jvm.ClassFile.FieldType.int)).before args0 about1 = true := code_word (m := ⟨3, 2⟩) (meth := k3m2) (c := k3c2) (by decide +kernel) rfl rfl rfl (by decide +kernel)
def codes1 : List Jvm.Cond := [Jvm.Cond.code x code maxLocals ret, Jvm.Cond.code ({ cls := "com/example/fusionutils/fusionutils/JudgementIsRelevantPinLaw", name := "visible", desc := "(I)C" } : Jvm.MethodName) method_2_code (1 : Nat) (Option.some Jvm.ClassFile.FieldType.char), Jvm.Cond.code ({ cls := "java/lang/String", name := "<init>", desc := "([C)V" } : Jvm.MethodName) jdk_42_method_3_code (2 : Nat) (Option.none : Option Jvm.ClassFile.FieldType), Jvm.Cond.code ({ cls := "java/lang/String", name := "<init>", desc := "([CIILjava/lang/Void;)V" } : Jvm.MethodName) jdk_42_method_149_code (6 : Nat) (Option.none : Option Jvm.ClassFile.FieldType), Jvm.Cond.code ({ cls := "java/lang/Object", name := "<init>", desc := "()V" } : Jvm.MethodName) object_method_1_code (1 : Nat) (Option.none : Option Jvm.ClassFile.FieldType), Jvm.Cond.code ({ cls := "java/lang/StringUTF16", name := "compress", desc := "([CII)[B" } : Jvm.MethodName) jdk_52_method_16_code (6 : Nat) (Option.some (Jvm.ClassFile.FieldType.array Jvm.ClassFile.FieldType.byte)), Jvm.Cond.code ({ cls := "java/lang/StringUTF16", name := "compress", desc := "([CI[BII)I" } : Jvm.MethodName) jdk_52_method_21_code (7 : Nat) (Option.some Jvm.ClassFile.FieldType.int), Jvm.Cond.code ({ cls := "java/lang/StringUTF16", name := "coderFromArrayLen", desc := "([BI)B" } : Jvm.MethodName) jdk_52_method_15_code (2 : Nat) (Option.some Jvm.ClassFile.FieldType.byte), Jvm.Cond.code ({ cls := "com/example/fusionutils/fusionutils/Judgement", name := "<init>", desc := "(Ljava/lang/String;Ljava/lang/String;I)V" } : Jvm.MethodName) prog_17_method_1_code (4 : Nat) (Option.none : Option Jvm.ClassFile.FieldType), Jvm.Cond.code ({ cls := "java/lang/Record", name := "<init>", desc := "()V" } : Jvm.MethodName) jdk_30_method_1_code (1 : Nat) (Option.none : Option Jvm.ClassFile.FieldType), Jvm.Cond.code ({ cls := "com/example/fusionutils/fusionutils/Fields", name := "requireId", desc := "(Ljava/lang/String;Ljava/lang/String;)V" } : Jvm.MethodName) prog_7_method_10_code (2 : Nat) (Option.none : Option Jvm.ClassFile.FieldType), Jvm.Cond.code ({ cls := "java/util/Objects", name := "requireNonNull", desc := "(Ljava/lang/Object;Ljava/lang/String;)Ljava/lang/Object;" } : Jvm.MethodName) jdk_31_method_11_code (2 : Nat) (Option.some (Jvm.ClassFile.FieldType.object "java/lang/Object")), Jvm.Cond.code ({ cls := "com/example/fusionutils/fusionutils/Fields", name := "isField", desc := "(Ljava/lang/String;)Z" } : Jvm.MethodName) prog_7_method_16_code (2 : Nat) (Option.some Jvm.ClassFile.FieldType.boolean), Jvm.Cond.code ({ cls := "java/lang/String", name := "isEmpty", desc := "()Z" } : Jvm.MethodName) jdk_42_method_55_code (1 : Nat) (Option.some Jvm.ClassFile.FieldType.boolean), Jvm.Cond.code ({ cls := "java/lang/String", name := "length", desc := "()I" } : Jvm.MethodName) jdk_42_method_54_code (1 : Nat) (Option.some Jvm.ClassFile.FieldType.int), Jvm.Cond.code ({ cls := "java/lang/String", name := "coder", desc := "()B" } : Jvm.MethodName) jdk_42_method_152_code (1 : Nat) (Option.some Jvm.ClassFile.FieldType.byte), Jvm.Cond.code ({ cls := "java/lang/String", name := "charAt", desc := "(I)C" } : Jvm.MethodName) jdk_42_method_56_code (2 : Nat) (Option.some Jvm.ClassFile.FieldType.char), Jvm.Cond.code ({ cls := "java/lang/String", name := "isLatin1", desc := "()Z" } : Jvm.MethodName) jdk_42_method_154_code (1 : Nat) (Option.some Jvm.ClassFile.FieldType.boolean), Jvm.Cond.code ({ cls := "java/lang/StringLatin1", name := "charAt", desc := "([BI)C" } : Jvm.MethodName) jdk_43_method_2_code (2 : Nat) (Option.some Jvm.ClassFile.FieldType.char), Jvm.Cond.code ({ cls := "java/lang/String", name := "checkIndex", desc := "(II)V" } : Jvm.MethodName) jdk_42_method_155_code (2 : Nat) (Option.none : Option Jvm.ClassFile.FieldType), Jvm.Cond.code ({ cls := "jdk/internal/util/Preconditions", name := "checkIndex", desc := "(IILjava/util/function/BiFunction;)I" } : Jvm.MethodName) jdk_41_method_11_code (3 : Nat) (Option.some Jvm.ClassFile.FieldType.int), Jvm.Cond.code ({ cls := "com/example/fusionutils/fusionutils/Fields", name := "isBarred", desc := "(C)Z" } : Jvm.MethodName) prog_7_method_19_code (1 : Nat) (Option.some Jvm.ClassFile.FieldType.boolean), Jvm.Cond.code ({ cls := "com/example/fusionutils/fusionutils/Judgement", name := "isRelevant", desc := "()Z" } : Jvm.MethodName) prog_17_method_3_code (1 : Nat) (Option.some Jvm.ClassFile.FieldType.boolean), Jvm.Cond.code ({ cls := "com/example/fusionutils/fusionutils/Judgement", name := "relevance", desc := "()I" } : Jvm.MethodName) prog_17_method_10_code (1 : Nat) (Option.some Jvm.ClassFile.FieldType.int)]
set_option maxRecDepth 65536 in
theorem codes_eq : words1.filter isCode = codes1 := rfl
theorem w_codes : ∀ c ∈ words1.filter isCode, c.before args0 about1 = true := by
  rw [codes_eq]
  intro c hc
  simp only [codes1, List.mem_cons, List.not_mem_nil, or_false] at hc
  rcases hc with rfl | rfl | rfl | rfl | rfl | rfl | rfl | rfl | rfl | rfl | rfl | rfl | rfl | rfl | rfl | rfl | rfl | rfl | rfl | rfl | rfl | rfl | rfl | rfl
  · exact w_c0
  · exact w_c1
  · exact w_c2
  · exact w_c3
  · exact w_c4
  · exact w_c5
  · exact w_c6
  · exact w_c7
  · exact w_c8
  · exact w_c9
  · exact w_c10
  · exact w_c11
  · exact w_c12
  · exact w_c13
  · exact w_c14
  · exact w_c15
  · exact w_c16
  · exact w_c17
  · exact w_c18
  · exact w_c19
  · exact w_c20
  · exact w_c21
  · exact w_c22
  · exact w_c23
set_option maxRecDepth 65536 in
theorem w_t1 : (words1.take 24).all (fun c => isCode c || c.before args0 about1) = true := by decide +kernel
set_option maxRecDepth 65536 in
theorem w_t2 : ((words1.drop 24).take 24).all (fun c => isCode c || c.before args0 about1) = true := by decide +kernel
set_option maxRecDepth 65536 in
theorem w_t3 : (((words1.drop 24).drop 24).take 24).all (fun c => isCode c || c.before args0 about1) = true := by decide +kernel
set_option maxRecDepth 65536 in
theorem w_t4 : ((((words1.drop 24).drop 24).drop 24).take 24).all (fun c => isCode c || c.before args0 about1) = true := by decide +kernel
set_option maxRecDepth 65536 in
theorem w_t5 : ((((words1.drop 24).drop 24).drop 24).drop 24).all (fun c => isCode c || c.before args0 about1) = true := by decide +kernel
theorem w_tables : (allAtoms (Jvm.Cond.code x code maxLocals ret :: tables_1)).before args0 about1 = true := by
  rw [allAtoms_all]
  show words1.all (fun c => c.before args0 about1) = true
  refine all_split ?_ w_codes
  rw [← List.take_append_drop 24 words1, List.all_append, w_t1, ← List.take_append_drop 24 (words1.drop 24), List.all_append, w_t2, ← List.take_append_drop 24 ((words1.drop 24).drop 24), List.all_append, w_t3, ← List.take_append_drop 24 (((words1.drop 24).drop 24).drop 24), List.all_append, w_t4, w_t5]
  rfl
set_option maxRecDepth 65536 in
theorem w_rest : rest_1_c.before args0 about1 = true := by decide +kernel
set_option maxRecDepth 65536 in
theorem w_case : (Jvm.Cond.and given_1 narrow_1).before args0 about1 = true := by decide +kernel
theorem w_applies : (headSpec (Jvm.Cond.code x code maxLocals ret :: tables_1) room_1).applies x e0.platform about1 = true :=
  (Spec.applies_iff w_frames).mpr ⟨w_running, w_runnable, w_alone, w_named, w_hears, w_ripe, w_room, w_tables⟩
theorem atStart : AtStart classFile x code maxLocals ret World_1 tables_1 room_1 Calls_1 rest_1 Pre_1 launch0 p0 e0 about1 theMethod args0 below0 :=
  ⟨lists_1, trivial, launch0.admits_env _ _ _, launch0.least_env, fairChoices_fair.cas, fairChoices_fair.clock, w_frames, w_args, w_heap, w_applies, trivial, w_rest, w_case⟩
end start1
theorem witness_1 : WitnessClaimed_1 := ⟨start1.p0, start1.e0, start1.about1, start1.theMethod, start1.args0, start1.below0, start1.atStart⟩
end Jvm.Pilot.@@N@@
