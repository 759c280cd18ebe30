import JvmDerived
import JvmDerived.Pilot.@@N@@Statement
import JvmDerived.Pilot.@@N@@Code
set_option linter.unusedVariables false
set_option linter.unusedSimpArgs false
namespace Jvm.OwnW
open Sem ClassFile Op Lib Jvm.Stand Jvm.Free Jvm.LawKit Jvm.RoadKit
/-- what is left to be shown of a walk that stands at S: it comes back, Q holds, the frame holds -/
def Wp (p : Program) (e : Env) (s : State) (below : List Frame) (Q : Option Value → Heap → List Loc → Prop) (kc ks : Nat) (S : State) : Prop :=
  ∃ s₂ o, Steps p.tables e below S s₂ ∧ s₂.status = .running ∧ Ended s₂ below o ∧ ∃ v L, o = .returned v ∧ Q v s₂.heap L ∧ FrameEnd s o s₂ L kc ks
/-- a method's contract at given arguments and a given heap -/
def Con (l : Launch) (Z : State) (y : MethodName) (bytes : ByteArray) (maxL : Nat) (ret : Option FieldType) (ws : List Jvm.Cond) (rm : Room) (as' : Array Value) (h0 : Heap) (Q : Option Value → Heap → List Loc → Prop) : Prop :=
  MetFree l y (head1 (Jvm.Cond.code y bytes maxL ret :: ws) rm) (fun a U => a = as' ∧ Z.Warmed39 U.vm ∧ U.heap = h0) (fun _ _ _ _ _ => True) (fun _ U o U' => ∃ v L, o = .returned v ∧ Q v U'.heap L ∧ FrameEnd U o U' L rm.cells rm.slots)
/-- an array: its kind, length, and what each place holds -/
def IArr (Z : State) (h : Heap) (a : Addr) (ty : FieldType) (n : Nat) (f : Nat → Value) : Prop := ∃ c : Cell, Arr Z h a c ty ∧ c.slots.size = n ∧ ∀ j, j < n → c.slots[j]? = some (f j)
def upd (f : Nat → Value) (i : Nat) (v : Value) : Nat → Value := fun k => if k = i then v else f k
theorem upd_same (f : Nat → Value) (i : Nat) (v : Value) : upd f i v i = v := by simp [upd]
theorem upd_ne {f : Nat → Value} {i k : Nat} {v : Value} (q : k ≠ i) : upd f i v k = f k := by simp [upd, q]
section W
variable {p : Program} {l : Launch} {e : Env} {R : Room} {s : State} {m : MethodId} {args : Array Value} {below : List Frame} {meth : Method} {c : Code} {T : State} {locs : List Loc} {cells slots : Nat} {Q : Option Value → Heap → List Loc → Prop} {kc ks : Nat} {Z : State} {a0 : Array Value} {h h' : Heap} {pc : Nat} {Ls : Array Slot} {st rest : List Value} {a b : Addr} {n : Nat} {f : Nat → Value} {ty : FieldType}
theorem IArr.lt (A : IArr Z h a ty n f) : a < h.size := by obtain ⟨c, A, -⟩ := A; exact A.lt
theorem IArr.ext (A : IArr Z h a ty n f) (E : Ext h h') : IArr Z h' a ty n f := by obtain ⟨c, A, r⟩ := A; exact ⟨c, A.ext E, r⟩
theorem IArr.other {sl : Nat} {v : Value} (A : IArr Z h b ty n f) (W : Wr h h' a sl v) (q : b ≠ a) : IArr Z h' b ty n f := by obtain ⟨c, A, r⟩ := A; exact ⟨c, A.other W q, r⟩
theorem IArr.keep {ws : List Addr} (A : IArr Z h a ty n f) (K : Keep h h' ws) (q : a ∉ ws) : IArr Z h' a ty n f := by obtain ⟨c, A, r⟩ := A; exact ⟨c, ⟨K.2.1 a c A.1 q, A.2⟩, r⟩
theorem IArr.same {i : Nat} {v : Value} (A : IArr Z h a ty n f) (W : Wr h h' a i v) : IArr Z h' a ty n (upd f i v) := by
  obtain ⟨c, A, S, H⟩ := A
  refine ⟨_, A.same W, by rw [sz_set]; exact S, fun j hj => ?_⟩
  unfold upd Cell.setSlot
  dsimp only
  split
  · rename_i q; subst q
    rw [Array.getElem?_setIfInBounds_self_of_lt (by omega)]
  · rename_i q
    rw [Array.getElem?_setIfInBounds_ne (Ne.symm q)]; exact H j hj
theorem IArr.fresh {cA : ClassId} {z : Int32} {k : Nat} (A : Arr Z h a (newA cA ty z) ty) (q : z.toNatClampNeg = k) : IArr Z h a ty k (fun _ => defaultValue ty) :=
  ⟨_, A, by rw [sz_new]; exact q, fun j hj => by subst q; simp [newA, hj]⟩
theorem IArr.cong {g : Nat → Value} (A : IArr Z h a ty n f) (q : ∀ j, j < n → g j = f j) : IArr Z h a ty n g := by
  obtain ⟨c, A, S, H⟩ := A; exact ⟨c, A, S, fun j hj => by rw [H j hj, q j hj]⟩
theorem nat_of {j : Int32} {i : Nat} (hj : j.toInt = (i : Int)) : ¬ j < 0 ∧ j.toNatClampNeg = i := by
  refine ⟨?_, ?_⟩
  · rw [Int32.lt_iff_toInt_lt, hj]; show ¬ (i : Int) < 0; omega
  · show j.toInt.toNat = i; rw [hj]; rfl
theorem fr1 {k : Nat} {a : Addr} {i : Nat} (q : k ≤ a) : Fr k [⟨a, i⟩] := fun y hy => by cases List.mem_singleton.mp hy; exact q
theorem own_and (x M : Int32) (hM : 0 ≤ M.toInt) : ∃ n : Nat, (n : Int) ≤ M.toInt ∧ (x &&& M).toInt = (n : Int) := by
  have h1 : (x &&& M).toBitVec.toNat ≤ M.toBitVec.toNat := by rw [Int32.toBitVec_and, BitVec.toNat_and]; exact Nat.and_le_right
  have h2 : M.toInt = if 2 * M.toBitVec.toNat < 2 ^ 32 then (M.toBitVec.toNat : Int) else (M.toBitVec.toNat : Int) - (2 ^ 32 : Nat) := BitVec.toInt_eq_toNat_cond _
  have h3 : (x &&& M).toInt = if 2 * (x &&& M).toBitVec.toNat < 2 ^ 32 then ((x &&& M).toBitVec.toNat : Int) else ((x &&& M).toBitVec.toNat : Int) - (2 ^ 32 : Nat) := BitVec.toInt_eq_toNat_cond _
  have h4 := M.toBitVec.isLt
  refine ⟨(x &&& M).toBitVec.toNat, ?_, ?_⟩
  · split at h2 <;> omega
  · split at h2 <;> split at h3 <;> omega
theorem own_rem {x y : Int32} (hx : 0 ≤ x.toInt) (hy : 0 < y.toInt) : ∃ n : Nat, (n : Int) < y.toInt ∧ (x % y).toInt = (n : Int) ∧ (n : Int) = x.toInt % y.toInt := by
  have h1 : (x % y).toInt = x.toInt.tmod y.toInt := Int32.toInt_mod _ _
  rw [Int.tmod_eq_emod_of_nonneg hx] at h1
  have h2 := Int.emod_nonneg x.toInt (Int.ne_of_gt hy)
  have h3 := Int.emod_lt_of_pos x.toInt hy
  exact ⟨(x.toInt % y.toInt).toNat, by omega, by omega, by omega⟩
theorem own_add {x y : Int32} (h1 : -2147483648 ≤ x.toInt + y.toInt) (h2 : x.toInt + y.toInt < 2147483648) : (x + y).toInt = x.toInt + y.toInt := by
  have a := c_iadd x y
  have r := rng32 (x + y)
  omega
theorem own_sub {x y : Int32} (h1 : -2147483648 ≤ x.toInt - y.toInt) (h2 : x.toInt - y.toInt < 2147483648) : (x - y).toInt = x.toInt - y.toInt := by
  have a := c_isub x y
  have r := rng32 (x - y)
  omega
theorem own_ofNat {n : Nat} (h : n < 2147483648) : (Int32.ofNat n).toInt = (n : Int) := Int32.toInt_ofNat_of_lt h
theorem own_ieq {x : Int32} {n : Nat} (h : x.toInt = (n : Int)) : x = Int32.ofNat n := by
  have r := rng32 x
  apply Int32.toInt_inj.mp; rw [h, own_ofNat (by omega)]
theorem Wp.step {S S' : State} (f : ∀ t, Steps p.tables e below S' t → Steps p.tables e below S t) (k : Wp p e s below Q kc ks S') : Wp p e s below Q kc ks S := by
  obtain ⟨s₂, o, h1, r⟩ := k
  exact ⟨s₂, o, f _ h1, r⟩
theorem Wp.chain {S S' : State} (f : Steps p.tables e below S S') (k : Wp p e s below Q kc ks S') : Wp p e s below Q kc ks S := by
  obtain ⟨s₂, o, h1, r⟩ := k
  exact ⟨s₂, o, f.trans h1, r⟩
theorem Wp.cast {S S' : State} (q : S = S') (k : Wp p e s below Q kc ks S') : Wp p e s below Q kc ks S := q ▸ k
theorem Wp.enter {g g' : JFrame} (q : g = g') (k : Wp p e s below Q kc ks (T.setTop g')) : Wp p e s below Q kc ks (T.setTop g) := q ▸ k
theorem Wp.mono {S : State} {Q' : Option Value → Heap → List Loc → Prop} {kc' ks' : Nat} (k : Wp p e s below Q' kc' ks' S) (hq : ∀ v h L, Q' v h L → Q v h L) (h1 : kc' ≤ kc) (h2 : ks' ≤ ks) : Wp p e s below Q kc ks S := by
  obtain ⟨s₂, o, g1, g2, g3, v, L, g4, g5, g6, g7, g8⟩ := k
  exact ⟨s₂, o, g1, g2, g3, v, L, g4, hq _ _ _ g5, g6, g7, g8.mono h1 h2⟩
theorem Con.of {y : MethodName} {bytes : ByteArray} {maxL : Nat} {ret : Option FieldType} {ws : List Jvm.Cond} {rm : Room} {as' : Array Value} (hpn : plainFor y = true)
    (w : ∀ p e s m below meth c s₁, p.tables.exec = Jvm.exec → c.code = bytes → c.maxLocals = maxL → s.vm.findClass y.cls = some m.cls → meth.name = y.name → meth.sig.returnType = ret → meth.locks = false → Z.Warmed39 s.vm → Stand p l e rm s m as' below meth c s₁ [] 0 0 → s₁.heap = h → Wp p e s below Q rm.cells rm.slots (s₁.setTop (entryFrame m as' maxL))) :
    Con l Z y bytes maxL ret ws rm as' h Q := by
  refine MetFree.of_bodySF hpn hisR ?_
  intro p e s m args below meth c s₁ Bd hml0 hP hK
  obtain ⟨rfl, hZ, hh⟩ := hP
  exact w p e s m below meth c s₁ Bd.exec Bd.bytes hml0 (findClass_of_methodNamed Bd.named) (name_of_methodNamed Bd.named Bd.method).1 Bd.returns (BodyLoose.notSynchronized Bd) hZ (Stand.of_body Bd) (by rw [← hh, Bd.state]; rfl)
theorem Con.mono {y : MethodName} {bytes : ByteArray} {maxL : Nat} {ret : Option FieldType} {ws : List Jvm.Cond} {rm : Room} {as' : Array Value} {Q' : Option Value → Heap → List Loc → Prop} (k : Con l Z y bytes maxL ret ws rm as' h Q') (hq : ∀ v h L, Q' v h L → Q v h L) : Con l Z y bytes maxL ret ws rm as' h Q := by
  intro p e h1 h2 h3 s m args below h4 h5 h6 h7
  obtain ⟨n, o, g1, g2, g3, v, L, g4, g5, g6⟩ := k p e h1 h2 h3 s m args below h4 h5 h6 h7
  exact ⟨n, o, g1, g2, g3, v, L, g4, hq _ _ _ g5, g6⟩
/-! the ends -/
theorem Wp.done (X : Stand p l e R s m args below meth c T locs cells slots) (hlk : meth.locks = false) {v : Option Value} (hv : meth.sig.returnType = none → v = none)
    (stp : ∀ fs, (∀ (f : JFrame) (acts : List Action), f.method = m → f.locked = none → f.entered = [] → (doReturn e (T.setTop f) acts v).1 = T.setFrames fs) → Steps p.tables e below (T.setTop (mkF m pc Ls st)) (T.setFrames fs))
    (hQ : Q v T.heap locs) (hc : cells ≤ kc) (hs : slots ≤ ks) : Wp p e s below Q kc ks (T.setTop (mkF m pc Ls st)) := by
  obtain ⟨fs, hr, hrun, hended, hW, hsame⟩ := X.leave (v := v) hv hlk
  exact ⟨_, _, stp fs hr, hrun, hended, v, locs, rfl, hQ, ⟨_, rfl⟩, hW, hsame.mono hc hs⟩
theorem W.iret (X : Stand p l e R s m args below meth c T locs cells slots) (hx : p.tables.exec = Jvm.exec) (hlk : meth.locks = false) (hret : meth.sig.returnType = some .int) (hd : decode c.code pc = .ok (.ireturn, 1)) {z : Int32} (hc : cells ≤ kc) (hs : slots ≤ ks) (hQ : Q (some (.int z)) T.heap locs) : Wp p e s below Q kc ks (T.setTop (mkF m pc Ls (.int z :: rest))) :=
  Wp.done X hlk (fun h => by rw [hret] at h; cases h) (fun fs hr => retOut X hx hret rfl (Or.inl ⟨rfl, Or.inl rfl, _, rfl⟩) hd hr) hQ hc hs
theorem W.nret (X : Stand p l e R s m args below meth c T locs cells slots) (hx : p.tables.exec = Jvm.exec) (hlk : meth.locks = false) {t : FieldType} (hret : meth.sig.returnType = some t) (ht : t = .boolean ∨ t = .byte ∨ t = .char ∨ t = .short) (hd : decode c.code pc = .ok (.ireturn, 1)) {z : Int32} (hc : cells ≤ kc) (hs : slots ≤ ks) (hQ : Q (some (.int (nar t z))) T.heap locs) : Wp p e s below Q kc ks (T.setTop (mkF m pc Ls (.int z :: rest))) :=
  Wp.done X hlk (fun h => by rw [hret] at h; cases h) (fun fs hr => retN X hx hret ht hd hr) hQ hc hs
theorem W.lret (X : Stand p l e R s m args below meth c T locs cells slots) (hx : p.tables.exec = Jvm.exec) (hlk : meth.locks = false) (hret : meth.sig.returnType = some .long) (hd : decode c.code pc = .ok (.lreturn, 1)) {z : Int64} (hc : cells ≤ kc) (hs : slots ≤ ks) (hQ : Q (some (.long z)) T.heap locs) : Wp p e s below Q kc ks (T.setTop (mkF m pc Ls (.long z :: rest))) :=
  Wp.done X hlk (fun h => by rw [hret] at h; cases h) (fun fs hr => retOut X hx hret rfl (Or.inr (Or.inl ⟨rfl, rfl, _, rfl⟩)) hd hr) hQ hc hs
theorem W.dret (X : Stand p l e R s m args below meth c T locs cells slots) (hx : p.tables.exec = Jvm.exec) (hlk : meth.locks = false) (hret : meth.sig.returnType = some .double) (hd : decode c.code pc = .ok (.dreturn, 1)) {z : UInt64} (hc : cells ≤ kc) (hs : slots ≤ ks) (hQ : Q (some (.double z)) T.heap locs) : Wp p e s below Q kc ks (T.setTop (mkF m pc Ls (.double z :: rest))) :=
  Wp.done X hlk (fun h => by rw [hret] at h; cases h) (fun fs hr => retOut X hx hret rfl (Or.inr (Or.inr (Or.inl ⟨rfl, rfl, _, rfl⟩))) hd hr) hQ hc hs
theorem W.aret (X : Stand p l e R s m args below meth c T locs cells slots) (hx : p.tables.exec = Jvm.exec) (hlk : meth.locks = false) {t : FieldType} (hret : meth.sig.returnType = some t) (ht : t.isReference = true) {w : Value} (hw : w.isRef = true) (hd : decode c.code pc = .ok (.areturn, 1)) (hc : cells ≤ kc) (hs : slots ≤ ks) (hQ : Q (some w) T.heap locs) : Wp p e s below Q kc ks (T.setTop (mkF m pc Ls (w :: rest))) :=
  Wp.done X hlk (fun h => by rw [hret] at h; cases h) (fun fs hr => retOut X hx hret (by rcases ref_cases hw with rfl | ⟨z, rfl⟩ <;> cases t <;> first | rfl | cases ht) (Or.inr (Or.inr (Or.inr (Or.inr ⟨rfl, ht, hw⟩)))) hd hr) hQ hc hs
theorem W.vret (X : Stand p l e R s m args below meth c T locs cells slots) (hx : p.tables.exec = Jvm.exec) (hlk : meth.locks = false) (hret : meth.sig.returnType = none) (hd : decode c.code pc = .ok (.return_, 1)) (hc : cells ≤ kc) (hs : slots ≤ ks) (hQ : Q none T.heap locs) : Wp p e s below Q kc ks (T.setTop (mkF m pc Ls [])) :=
  Wp.done X hlk (fun _ => rfl) (fun fs hr => X.returnOut hx hret hd hr) hQ hc hs
/-! plain steps -/
theorem W.iconst (X : Stand p l e R s m args below meth c T locs cells slots) (hx : p.tables.exec = Jvm.exec) {i : Int} (pc' : Nat) (v : Int32) (hd : decode c.code pc = .ok (.iconst i, 1)) (hv : Int32.ofInt i = v) (hp : pc + 1 = pc') (K : Wp p e s below Q kc ks (T.setTop (mkF m pc' Ls (.int v :: st)))) : Wp p e s below Q kc ks (T.setTop (mkF m pc Ls st)) := by
  subst hp hv; exact Wp.step (fun _ k => XS.iconst X.here hx rfl hd k) K
theorem W.bipush (X : Stand p l e R s m args below meth c T locs cells slots) (hx : p.tables.exec = Jvm.exec) {i : Int} (pc' : Nat) (v : Int32) (hd : decode c.code pc = .ok (.bipush i, 2)) (hv : (Int8.ofInt i).toInt32 = v) (hp : pc + 2 = pc') (K : Wp p e s below Q kc ks (T.setTop (mkF m pc' Ls (.int v :: st)))) : Wp p e s below Q kc ks (T.setTop (mkF m pc Ls st)) := by
  subst hp hv; exact Wp.step (fun _ k => XS.bipush X.here hx rfl hd k) K
theorem W.sipush (X : Stand p l e R s m args below meth c T locs cells slots) (hx : p.tables.exec = Jvm.exec) {i : Int} (pc' : Nat) (v : Int32) (hd : decode c.code pc = .ok (.sipush i, 3)) (hv : (Int16.ofInt i).toInt32 = v) (hp : pc + 3 = pc') (K : Wp p e s below Q kc ks (T.setTop (mkF m pc' Ls (.int v :: st)))) : Wp p e s below Q kc ks (T.setTop (mkF m pc Ls st)) := by
  subst hp hv; exact Wp.step (fun _ k => XS.sipush X.here hx rfl hd k) K
theorem W.lconst (X : Stand p l e R s m args below meth c T locs cells slots) (hx : p.tables.exec = Jvm.exec) {i : Fin 2} (pc' : Nat) (v : Int64) (hd : decode c.code pc = .ok (.lconst i, 1)) (hv : (Int64.ofNat i) = v) (hp : pc + 1 = pc') (K : Wp p e s below Q kc ks (T.setTop (mkF m pc' Ls (.long v :: st)))) : Wp p e s below Q kc ks (T.setTop (mkF m pc Ls st)) := by
  subst hp hv; exact Wp.step (fun _ k => XT.lconst X.here hx rfl hd k) K
theorem W.anull (X : Stand p l e R s m args below meth c T locs cells slots) (hx : p.tables.exec = Jvm.exec) (pc' : Nat) (hd : decode c.code pc = .ok (.aconst_null, 1)) (hp : pc + 1 = pc') (K : Wp p e s below Q kc ks (T.setTop (mkF m pc' Ls (.null :: st)))) : Wp p e s below Q kc ks (T.setTop (mkF m pc Ls st)) := by
  subst hp; exact Wp.step (fun _ k => XS.aconstNull X.here hx rfl hd k) K
theorem W.ldcI (X : Stand p l e R s m args below meth c T locs cells slots) (hx : p.tables.exec = Jvm.exec) (hZ : Z.Warmed39 s.vm) {own : String} {index : Nat} {v : Int32} (pc' : Nat) (hown : s.vm.findClass own = some m.cls) (w : (Jvm.Cond.constant own index v).before a0 Z = true) (hd : decode c.code pc = .ok (.ldc index, 2)) (hp : pc + 2 = pc') (K : Wp p e s below Q kc ks (T.setTop (mkF m pc' Ls (.int v :: st)))) : Wp p e s below Q kc ks (T.setTop (mkF m pc Ls st)) := by
  subst hp; exact Wp.step (fun t k => X.ldcInt hx hown (mvT hZ w) (g := mkF m pc Ls st) rfl hd t k) K
theorem W.ldcL (X : Stand p l e R s m args below meth c T locs cells slots) (hx : p.tables.exec = Jvm.exec) (hZ : Z.Warmed39 s.vm) {own : String} {index : Nat} {v : Int64} (pc' : Nat) (hown : s.vm.findClass own = some m.cls) (w : (Jvm.Cond.constantLong own index v).before a0 Z = true) (hd : decode c.code pc = .ok (.ldc2_w index, 3)) (hp : pc + 3 = pc') (K : Wp p e s below Q kc ks (T.setTop (mkF m pc' Ls (.long v :: st)))) : Wp p e s below Q kc ks (T.setTop (mkF m pc Ls st)) := by
  subst hp; exact Wp.step (fun t k => X.ldc2Long hx hown (mvT hZ w) (g := mkF m pc Ls st) rfl hd t k) K
theorem W.iloadN (X : Stand p l e R s m args below meth c T locs cells slots) (hx : p.tables.exec = Jvm.exec) {k : Fin 4} {x : Int32} (pc' : Nat) (hd : decode c.code pc = .ok (.iload_n k, 1)) (hl : Ls[k.val]? = some (.val (.int x))) (hp : pc + 1 = pc') (K : Wp p e s below Q kc ks (T.setTop (mkF m pc' Ls (.int x :: st)))) : Wp p e s below Q kc ks (T.setTop (mkF m pc Ls st)) := by
  subst hp; exact Wp.step (fun _ k => XS.iloadN X.here hx rfl hd hl k) K
theorem W.iload (X : Stand p l e R s m args below meth c T locs cells slots) (hx : p.tables.exec = Jvm.exec) {k : Nat} {x : Int32} (pc' : Nat) (hd : decode c.code pc = .ok (.iload k, 2)) (hl : Ls[k]? = some (.val (.int x))) (hp : pc + 2 = pc') (K : Wp p e s below Q kc ks (T.setTop (mkF m pc' Ls (.int x :: st)))) : Wp p e s below Q kc ks (T.setTop (mkF m pc Ls st)) := by
  subst hp; exact Wp.step (fun _ k => XS.iload X.here hx rfl hd hl k) K
theorem W.aloadN (X : Stand p l e R s m args below meth c T locs cells slots) (hx : p.tables.exec = Jvm.exec) {k : Fin 4} {x : Value} (pc' : Nat) (hd : decode c.code pc = .ok (.aload_n k, 1)) (hl : Ls[k.val]? = some (.val x)) (hr : x.isRef = true) (hp : pc + 1 = pc') (K : Wp p e s below Q kc ks (T.setTop (mkF m pc' Ls (x :: st)))) : Wp p e s below Q kc ks (T.setTop (mkF m pc Ls st)) := by
  subst hp; exact Wp.step (fun _ k => XS.aloadN X.here hx rfl hd hl hr k) K
theorem W.aload (X : Stand p l e R s m args below meth c T locs cells slots) (hx : p.tables.exec = Jvm.exec) {k : Nat} {x : Value} (pc' : Nat) (hd : decode c.code pc = .ok (.aload k, 2)) (hl : Ls[k]? = some (.val x)) (hr : x.isRef = true) (hp : pc + 2 = pc') (K : Wp p e s below Q kc ks (T.setTop (mkF m pc' Ls (x :: st)))) : Wp p e s below Q kc ks (T.setTop (mkF m pc Ls st)) := by
  subst hp; exact Wp.step (fun _ k => XS.aload X.here hx rfl hd hl hr k) K
theorem W.lloadN (X : Stand p l e R s m args below meth c T locs cells slots) (hx : p.tables.exec = Jvm.exec) {k : Fin 4} {x : Int64} (pc' : Nat) (hd : decode c.code pc = .ok (.lload_n k, 1)) (hl : Ls[k.val]? = some (.val (.long x))) (hp : pc + 1 = pc') (K : Wp p e s below Q kc ks (T.setTop (mkF m pc' Ls (.long x :: st)))) : Wp p e s below Q kc ks (T.setTop (mkF m pc Ls st)) := by
  subst hp; exact Wp.step (fun _ k => XS.lloadN X.here hx rfl hd hl k) K
theorem W.lload (X : Stand p l e R s m args below meth c T locs cells slots) (hx : p.tables.exec = Jvm.exec) {k : Nat} {x : Int64} (pc' : Nat) (hd : decode c.code pc = .ok (.lload k, 2)) (hl : Ls[k]? = some (.val (.long x))) (hp : pc + 2 = pc') (K : Wp p e s below Q kc ks (T.setTop (mkF m pc' Ls (.long x :: st)))) : Wp p e s below Q kc ks (T.setTop (mkF m pc Ls st)) := by
  subst hp; exact Wp.step (fun _ k => XS.lload X.here hx rfl hd hl k) K
theorem W.istoreN (X : Stand p l e R s m args below meth c T locs cells slots) (hx : p.tables.exec = Jvm.exec) {k : Fin 4} {x : Int32} (pc' : Nat) (l' : Array Slot) (hd : decode c.code pc = .ok (.istore_n k, 1)) (hl : storeLocals Ls k.val (.int x) = some l') (hp : pc + 1 = pc') (K : Wp p e s below Q kc ks (T.setTop (mkF m pc' l' st))) : Wp p e s below Q kc ks (T.setTop (mkF m pc Ls (.int x :: st))) := by
  subst hp; exact Wp.step (fun _ k => XS.istoreN X.here hx rfl hd rfl hl k) K
theorem W.istore (X : Stand p l e R s m args below meth c T locs cells slots) (hx : p.tables.exec = Jvm.exec) {k : Nat} {x : Int32} (pc' : Nat) (l' : Array Slot) (hd : decode c.code pc = .ok (.istore k, 2)) (hl : storeLocals Ls k (.int x) = some l') (hp : pc + 2 = pc') (K : Wp p e s below Q kc ks (T.setTop (mkF m pc' l' st))) : Wp p e s below Q kc ks (T.setTop (mkF m pc Ls (.int x :: st))) := by
  subst hp; exact Wp.step (fun _ k => XS.istore X.here hx rfl hd rfl hl k) K
theorem W.astoreN (X : Stand p l e R s m args below meth c T locs cells slots) (hx : p.tables.exec = Jvm.exec) {k : Fin 4} {x : Value} (pc' : Nat) (l' : Array Slot) (hd : decode c.code pc = .ok (.astore_n k, 1)) (hr : x.isRef = true) (hl : storeLocals Ls k.val x = some l') (hp : pc + 1 = pc') (K : Wp p e s below Q kc ks (T.setTop (mkF m pc' l' st))) : Wp p e s below Q kc ks (T.setTop (mkF m pc Ls (x :: st))) := by
  subst hp; exact Wp.step (fun _ k => XS.astoreN X.here hx rfl hd rfl hr hl k) K
theorem W.astore (X : Stand p l e R s m args below meth c T locs cells slots) (hx : p.tables.exec = Jvm.exec) {k : Nat} {x : Value} (pc' : Nat) (l' : Array Slot) (hd : decode c.code pc = .ok (.astore k, 2)) (hr : x.isRef = true) (hl : storeLocals Ls k x = some l') (hp : pc + 2 = pc') (K : Wp p e s below Q kc ks (T.setTop (mkF m pc' l' st))) : Wp p e s below Q kc ks (T.setTop (mkF m pc Ls (x :: st))) := by
  subst hp; exact Wp.step (fun _ k => XS.astore X.here hx rfl hd rfl hr hl k) K
theorem W.lstoreN (X : Stand p l e R s m args below meth c T locs cells slots) (hx : p.tables.exec = Jvm.exec) {k : Fin 4} {x : Int64} (pc' : Nat) (l' : Array Slot) (hd : decode c.code pc = .ok (.lstore_n k, 1)) (hl : storeLocals Ls k.val (.long x) = some l') (hp : pc + 1 = pc') (K : Wp p e s below Q kc ks (T.setTop (mkF m pc' l' st))) : Wp p e s below Q kc ks (T.setTop (mkF m pc Ls (.long x :: st))) := by
  subst hp; exact Wp.step (fun _ k => XS.lstoreN X.here hx rfl hd rfl hl k) K
theorem W.lstore (X : Stand p l e R s m args below meth c T locs cells slots) (hx : p.tables.exec = Jvm.exec) {k : Nat} {x : Int64} (pc' : Nat) (l' : Array Slot) (hd : decode c.code pc = .ok (.lstore k, 2)) (hl : storeLocals Ls k (.long x) = some l') (hp : pc + 2 = pc') (K : Wp p e s below Q kc ks (T.setTop (mkF m pc' l' st))) : Wp p e s below Q kc ks (T.setTop (mkF m pc Ls (.long x :: st))) := by
  subst hp; exact Wp.step (fun _ k => XS.lstore X.here hx rfl hd rfl hl k) K
theorem W.iinc (X : Stand p l e R s m args below meth c T locs cells slots) (hx : p.tables.exec = Jvm.exec) {k : Nat} {i : Int} {x : Int32} (pc' : Nat) (v : Int32) (l' : Array Slot) (hd : decode c.code pc = .ok (.iinc k i, 3)) (hv : Int32.ofInt i = v) (hl : Ls[k]? = some (.val (.int x))) (hl' : storeLocals Ls k (.int (x + v)) = some l') (hp : pc + 3 = pc') (K : Wp p e s below Q kc ks (T.setTop (mkF m pc' l' st))) : Wp p e s below Q kc ks (T.setTop (mkF m pc Ls st)) := by
  subst hp hv; exact Wp.step (fun _ k => XS.iinc X.here hx rfl hd hl hl' k) K
theorem W.iadd (X : Stand p l e R s m args below meth c T locs cells slots) (hx : p.tables.exec = Jvm.exec) {x y : Int32} (pc' : Nat) (hd : decode c.code pc = .ok (.iadd, 1)) (hp : pc + 1 = pc') (K : Wp p e s below Q kc ks (T.setTop (mkF m pc' Ls (.int (x + y) :: st)))) : Wp p e s below Q kc ks (T.setTop (mkF m pc Ls (.int y :: .int x :: st))) := by
  subst hp; exact Wp.step (fun _ k => XS.iadd X.here hx rfl hd rfl k) K
theorem W.ladd (X : Stand p l e R s m args below meth c T locs cells slots) (hx : p.tables.exec = Jvm.exec) {x y : Int64} (pc' : Nat) (hd : decode c.code pc = .ok (.ladd, 1)) (hp : pc + 1 = pc') (K : Wp p e s below Q kc ks (T.setTop (mkF m pc' Ls (.long (x + y) :: st)))) : Wp p e s below Q kc ks (T.setTop (mkF m pc Ls (.long y :: .long x :: st))) := by
  subst hp; exact Wp.step (fun _ k => XS.ladd X.here hx rfl hd rfl k) K
theorem W.isub (X : Stand p l e R s m args below meth c T locs cells slots) (hx : p.tables.exec = Jvm.exec) {x y : Int32} (pc' : Nat) (hd : decode c.code pc = .ok (.isub, 1)) (hp : pc + 1 = pc') (K : Wp p e s below Q kc ks (T.setTop (mkF m pc' Ls (.int (x - y) :: st)))) : Wp p e s below Q kc ks (T.setTop (mkF m pc Ls (.int y :: .int x :: st))) := by
  subst hp; exact Wp.step (fun _ k => XS.isub X.here hx rfl hd rfl k) K
theorem W.lsub (X : Stand p l e R s m args below meth c T locs cells slots) (hx : p.tables.exec = Jvm.exec) {x y : Int64} (pc' : Nat) (hd : decode c.code pc = .ok (.lsub, 1)) (hp : pc + 1 = pc') (K : Wp p e s below Q kc ks (T.setTop (mkF m pc' Ls (.long (x - y) :: st)))) : Wp p e s below Q kc ks (T.setTop (mkF m pc Ls (.long y :: .long x :: st))) := by
  subst hp; exact Wp.step (fun _ k => XS.lsub X.here hx rfl hd rfl k) K
theorem W.imul (X : Stand p l e R s m args below meth c T locs cells slots) (hx : p.tables.exec = Jvm.exec) {x y : Int32} (pc' : Nat) (hd : decode c.code pc = .ok (.imul, 1)) (hp : pc + 1 = pc') (K : Wp p e s below Q kc ks (T.setTop (mkF m pc' Ls (.int (x * y) :: st)))) : Wp p e s below Q kc ks (T.setTop (mkF m pc Ls (.int y :: .int x :: st))) := by
  subst hp; exact Wp.step (fun _ k => XS.imul X.here hx rfl hd rfl k) K
theorem W.lmul (X : Stand p l e R s m args below meth c T locs cells slots) (hx : p.tables.exec = Jvm.exec) {x y : Int64} (pc' : Nat) (hd : decode c.code pc = .ok (.lmul, 1)) (hp : pc + 1 = pc') (K : Wp p e s below Q kc ks (T.setTop (mkF m pc' Ls (.long (x * y) :: st)))) : Wp p e s below Q kc ks (T.setTop (mkF m pc Ls (.long y :: .long x :: st))) := by
  subst hp; exact Wp.step (fun _ k => XS.lmul X.here hx rfl hd rfl k) K
theorem W.iand (X : Stand p l e R s m args below meth c T locs cells slots) (hx : p.tables.exec = Jvm.exec) {x y : Int32} (pc' : Nat) (hd : decode c.code pc = .ok (.iand, 1)) (hp : pc + 1 = pc') (K : Wp p e s below Q kc ks (T.setTop (mkF m pc' Ls (.int (x &&& y) :: st)))) : Wp p e s below Q kc ks (T.setTop (mkF m pc Ls (.int y :: .int x :: st))) := by
  subst hp; exact Wp.step (fun _ k => XS.iand X.here hx rfl hd rfl k) K
theorem W.land (X : Stand p l e R s m args below meth c T locs cells slots) (hx : p.tables.exec = Jvm.exec) {x y : Int64} (pc' : Nat) (hd : decode c.code pc = .ok (.land, 1)) (hp : pc + 1 = pc') (K : Wp p e s below Q kc ks (T.setTop (mkF m pc' Ls (.long (x &&& y) :: st)))) : Wp p e s below Q kc ks (T.setTop (mkF m pc Ls (.long y :: .long x :: st))) := by
  subst hp; exact Wp.step (fun _ k => XS.land X.here hx rfl hd rfl k) K
theorem W.ior (X : Stand p l e R s m args below meth c T locs cells slots) (hx : p.tables.exec = Jvm.exec) {x y : Int32} (pc' : Nat) (hd : decode c.code pc = .ok (.ior, 1)) (hp : pc + 1 = pc') (K : Wp p e s below Q kc ks (T.setTop (mkF m pc' Ls (.int (x ||| y) :: st)))) : Wp p e s below Q kc ks (T.setTop (mkF m pc Ls (.int y :: .int x :: st))) := by
  subst hp; exact Wp.step (fun _ k => XS.ior X.here hx rfl hd rfl k) K
theorem W.lor (X : Stand p l e R s m args below meth c T locs cells slots) (hx : p.tables.exec = Jvm.exec) {x y : Int64} (pc' : Nat) (hd : decode c.code pc = .ok (.lor, 1)) (hp : pc + 1 = pc') (K : Wp p e s below Q kc ks (T.setTop (mkF m pc' Ls (.long (x ||| y) :: st)))) : Wp p e s below Q kc ks (T.setTop (mkF m pc Ls (.long y :: .long x :: st))) := by
  subst hp; exact Wp.step (fun _ k => XS.lor X.here hx rfl hd rfl k) K
theorem W.ixor (X : Stand p l e R s m args below meth c T locs cells slots) (hx : p.tables.exec = Jvm.exec) {x y : Int32} (pc' : Nat) (hd : decode c.code pc = .ok (.ixor, 1)) (hp : pc + 1 = pc') (K : Wp p e s below Q kc ks (T.setTop (mkF m pc' Ls (.int (x ^^^ y) :: st)))) : Wp p e s below Q kc ks (T.setTop (mkF m pc Ls (.int y :: .int x :: st))) := by
  subst hp; exact Wp.step (fun _ k => XS.ixor X.here hx rfl hd rfl k) K
theorem W.lxor (X : Stand p l e R s m args below meth c T locs cells slots) (hx : p.tables.exec = Jvm.exec) {x y : Int64} (pc' : Nat) (hd : decode c.code pc = .ok (.lxor, 1)) (hp : pc + 1 = pc') (K : Wp p e s below Q kc ks (T.setTop (mkF m pc' Ls (.long (x ^^^ y) :: st)))) : Wp p e s below Q kc ks (T.setTop (mkF m pc Ls (.long y :: .long x :: st))) := by
  subst hp; exact Wp.step (fun _ k => XS.lxor X.here hx rfl hd rfl k) K
theorem W.ishl (X : Stand p l e R s m args below meth c T locs cells slots) (hx : p.tables.exec = Jvm.exec) {x y : Int32} (pc' : Nat) (hd : decode c.code pc = .ok (.ishl, 1)) (hp : pc + 1 = pc') (K : Wp p e s below Q kc ks (T.setTop (mkF m pc' Ls (.int (x <<< (y &&& 31)) :: st)))) : Wp p e s below Q kc ks (T.setTop (mkF m pc Ls (.int y :: .int x :: st))) := by
  subst hp; exact Wp.step (fun _ k => XS.ishl X.here hx rfl hd rfl k) K
theorem W.ishr (X : Stand p l e R s m args below meth c T locs cells slots) (hx : p.tables.exec = Jvm.exec) {x y : Int32} (pc' : Nat) (hd : decode c.code pc = .ok (.ishr, 1)) (hp : pc + 1 = pc') (K : Wp p e s below Q kc ks (T.setTop (mkF m pc' Ls (.int (x >>> (y &&& 31)) :: st)))) : Wp p e s below Q kc ks (T.setTop (mkF m pc Ls (.int y :: .int x :: st))) := by
  subst hp; exact Wp.step (fun _ k => XS.ishr X.here hx rfl hd rfl k) K
theorem W.iushr (X : Stand p l e R s m args below meth c T locs cells slots) (hx : p.tables.exec = Jvm.exec) {x y : Int32} (pc' : Nat) (hd : decode c.code pc = .ok (.iushr, 1)) (hp : pc + 1 = pc') (K : Wp p e s below Q kc ks (T.setTop (mkF m pc' Ls (.int ((x.toUInt32 >>> (y &&& 31).toUInt32).toInt32) :: st)))) : Wp p e s below Q kc ks (T.setTop (mkF m pc Ls (.int y :: .int x :: st))) := by
  subst hp; exact Wp.step (fun _ k => XS.iushr X.here hx rfl hd rfl k) K
theorem W.lshl (X : Stand p l e R s m args below meth c T locs cells slots) (hx : p.tables.exec = Jvm.exec) {x : Int64} {y : Int32} (pc' : Nat) (hd : decode c.code pc = .ok (.lshl, 1)) (hp : pc + 1 = pc') (K : Wp p e s below Q kc ks (T.setTop (mkF m pc' Ls (.long (x <<< (y &&& 0x3f).toInt64) :: st)))) : Wp p e s below Q kc ks (T.setTop (mkF m pc Ls (.int y :: .long x :: st))) := by
  subst hp; exact Wp.step (fun _ k => XS.lshl X.here hx rfl hd rfl k) K
theorem W.lshr (X : Stand p l e R s m args below meth c T locs cells slots) (hx : p.tables.exec = Jvm.exec) {x : Int64} {y : Int32} (pc' : Nat) (hd : decode c.code pc = .ok (.lshr, 1)) (hp : pc + 1 = pc') (K : Wp p e s below Q kc ks (T.setTop (mkF m pc' Ls (.long (x >>> (y &&& 0x3f).toInt64) :: st)))) : Wp p e s below Q kc ks (T.setTop (mkF m pc Ls (.int y :: .long x :: st))) := by
  subst hp; exact Wp.step (fun _ k => XS.lshr X.here hx rfl hd rfl k) K
theorem W.lushr (X : Stand p l e R s m args below meth c T locs cells slots) (hx : p.tables.exec = Jvm.exec) {x : Int64} {y : Int32} (pc' : Nat) (hd : decode c.code pc = .ok (.lushr, 1)) (hp : pc + 1 = pc') (K : Wp p e s below Q kc ks (T.setTop (mkF m pc' Ls (.long ((x.toUInt64 >>> (y &&& 0x3f).toInt64.toUInt64).toInt64) :: st)))) : Wp p e s below Q kc ks (T.setTop (mkF m pc Ls (.int y :: .long x :: st))) := by
  subst hp; exact Wp.step (fun _ k => XS.lushr X.here hx rfl hd rfl k) K
theorem W.lcmp (X : Stand p l e R s m args below meth c T locs cells slots) (hx : p.tables.exec = Jvm.exec) {x y : Int64} (pc' : Nat) (hd : decode c.code pc = .ok (.lcmp, 1)) (hp : pc + 1 = pc') (K : Wp p e s below Q kc ks (T.setTop (mkF m pc' Ls (.int (lcmpW x y) :: st)))) : Wp p e s below Q kc ks (T.setTop (mkF m pc Ls (.long y :: .long x :: st))) := by
  subst hp; exact Wp.step (fun _ k => XS.lcmp X.here hx rfl hd rfl k) K
theorem W.irem (X : Stand p l e R s m args below meth c T locs cells slots) (hx : p.tables.exec = Jvm.exec) {x y : Int32} (pc' : Nat) (hd : decode c.code pc = .ok (.irem, 1)) (hy : y ≠ 0) (hp : pc + 1 = pc') (K : Wp p e s below Q kc ks (T.setTop (mkF m pc' Ls (.int (x % y) :: st)))) : Wp p e s below Q kc ks (T.setTop (mkF m pc Ls (.int y :: .int x :: st))) := by
  subst hp; exact Wp.step (fun _ k => iremM X hx (g := mkF m pc Ls (.int y :: .int x :: st)) rfl hd rfl hy k) K
theorem W.idiv (X : Stand p l e R s m args below meth c T locs cells slots) (hx : p.tables.exec = Jvm.exec) {x y : Int32} (pc' : Nat) (hd : decode c.code pc = .ok (.idiv, 1)) (hy : y ≠ 0) (hp : pc + 1 = pc') (K : Wp p e s below Q kc ks (T.setTop (mkF m pc' Ls (.int (x / y) :: st)))) : Wp p e s below Q kc ks (T.setTop (mkF m pc Ls (.int y :: .int x :: st))) := by
  subst hp; exact Wp.step (fun _ k => XS.idiv X.here hx rfl hd rfl hy k) K
theorem W.ineg (X : Stand p l e R s m args below meth c T locs cells slots) (hx : p.tables.exec = Jvm.exec) {x : Int32} (pc' : Nat) (hd : decode c.code pc = .ok (.ineg, 1)) (hp : pc + 1 = pc') (K : Wp p e s below Q kc ks (T.setTop (mkF m pc' Ls (.int (-x) :: st)))) : Wp p e s below Q kc ks (T.setTop (mkF m pc Ls (.int x :: st))) := by
  subst hp; exact Wp.step (fun _ k => XS.ineg X.here hx rfl hd rfl k) K
theorem W.lneg (X : Stand p l e R s m args below meth c T locs cells slots) (hx : p.tables.exec = Jvm.exec) {x : Int64} (pc' : Nat) (hd : decode c.code pc = .ok (.lneg, 1)) (hp : pc + 1 = pc') (K : Wp p e s below Q kc ks (T.setTop (mkF m pc' Ls (.long (-x) :: st)))) : Wp p e s below Q kc ks (T.setTop (mkF m pc Ls (.long x :: st))) := by
  subst hp; exact Wp.step (fun _ k => XS.lneg X.here hx rfl hd rfl k) K
theorem W.i2b (X : Stand p l e R s m args below meth c T locs cells slots) (hx : p.tables.exec = Jvm.exec) {x : Int32} (pc' : Nat) (hd : decode c.code pc = .ok (.i2b, 1)) (hp : pc + 1 = pc') (K : Wp p e s below Q kc ks (T.setTop (mkF m pc' Ls (.int x.toInt8.toInt32 :: st)))) : Wp p e s below Q kc ks (T.setTop (mkF m pc Ls (.int x :: st))) := by
  subst hp; exact Wp.step (fun _ k => XS.i2b X.here hx rfl hd rfl k) K
theorem W.i2c (X : Stand p l e R s m args below meth c T locs cells slots) (hx : p.tables.exec = Jvm.exec) {x : Int32} (pc' : Nat) (hd : decode c.code pc = .ok (.i2c, 1)) (hp : pc + 1 = pc') (K : Wp p e s below Q kc ks (T.setTop (mkF m pc' Ls (.int x.toUInt32.toUInt16.toUInt32.toInt32 :: st)))) : Wp p e s below Q kc ks (T.setTop (mkF m pc Ls (.int x :: st))) := by
  subst hp; exact Wp.step (fun _ k => XS.i2c X.here hx rfl hd rfl k) K
theorem W.i2s (X : Stand p l e R s m args below meth c T locs cells slots) (hx : p.tables.exec = Jvm.exec) {x : Int32} (pc' : Nat) (hd : decode c.code pc = .ok (.i2s, 1)) (hp : pc + 1 = pc') (K : Wp p e s below Q kc ks (T.setTop (mkF m pc' Ls (.int x.toInt16.toInt32 :: st)))) : Wp p e s below Q kc ks (T.setTop (mkF m pc Ls (.int x :: st))) := by
  subst hp; exact Wp.step (fun _ k => XS.i2s X.here hx rfl hd rfl k) K
theorem W.i2l (X : Stand p l e R s m args below meth c T locs cells slots) (hx : p.tables.exec = Jvm.exec) {x : Int32} (pc' : Nat) (hd : decode c.code pc = .ok (.i2l, 1)) (hp : pc + 1 = pc') (K : Wp p e s below Q kc ks (T.setTop (mkF m pc' Ls (.long x.toInt64 :: st)))) : Wp p e s below Q kc ks (T.setTop (mkF m pc Ls (.int x :: st))) := by
  subst hp; exact Wp.step (fun _ k => XS.i2l X.here hx rfl hd rfl k) K
theorem W.l2i (X : Stand p l e R s m args below meth c T locs cells slots) (hx : p.tables.exec = Jvm.exec) {x : Int64} (pc' : Nat) (hd : decode c.code pc = .ok (.l2i, 1)) (hp : pc + 1 = pc') (K : Wp p e s below Q kc ks (T.setTop (mkF m pc' Ls (.int x.toInt32 :: st)))) : Wp p e s below Q kc ks (T.setTop (mkF m pc Ls (.long x :: st))) := by
  subst hp; exact Wp.step (fun _ k => XS.l2i X.here hx rfl hd rfl k) K
theorem W.dup (X : Stand p l e R s m args below meth c T locs cells slots) (hx : p.tables.exec = Jvm.exec) {x : Value} (pc' : Nat) (hd : decode c.code pc = .ok (.dup, 1)) (hc : x.category = 1) (hp : pc + 1 = pc') (K : Wp p e s below Q kc ks (T.setTop (mkF m pc' Ls (x :: x :: st)))) : Wp p e s below Q kc ks (T.setTop (mkF m pc Ls (x :: st))) := by
  subst hp; exact Wp.step (fun _ k => XS.dup X.here hx rfl hd rfl hc k) K
theorem W.pop (X : Stand p l e R s m args below meth c T locs cells slots) (hx : p.tables.exec = Jvm.exec) {x : Value} (pc' : Nat) (hd : decode c.code pc = .ok (.pop, 1)) (hc : x.category = 1) (hp : pc + 1 = pc') (K : Wp p e s below Q kc ks (T.setTop (mkF m pc' Ls st))) : Wp p e s below Q kc ks (T.setTop (mkF m pc Ls (x :: st))) := by
  subst hp; exact Wp.step (fun _ k => XS.pop X.here hx rfl hd rfl hc k) K
theorem W.dup2 (X : Stand p l e R s m args below meth c T locs cells slots) (hx : p.tables.exec = Jvm.exec) {x y : Value} (pc' : Nat) (hd : decode c.code pc = .ok (.dup2, 1)) (hc : x.category = 1) (hc' : y.category = 1) (hp : pc + 1 = pc') (K : Wp p e s below Q kc ks (T.setTop (mkF m pc' Ls (x :: y :: x :: y :: st)))) : Wp p e s below Q kc ks (T.setTop (mkF m pc Ls (x :: y :: st))) := by
  subst hp; exact Wp.step (fun _ k => XT.dup2 X.here hx rfl hd rfl hc hc' k) K
theorem W.dupX1 (X : Stand p l e R s m args below meth c T locs cells slots) (hx : p.tables.exec = Jvm.exec) {x y : Value} (pc' : Nat) (hd : decode c.code pc = .ok (.dup_x1, 1)) (hc : x.category = 1) (hc' : y.category = 1) (hp : pc + 1 = pc') (K : Wp p e s below Q kc ks (T.setTop (mkF m pc' Ls (x :: y :: x :: st)))) : Wp p e s below Q kc ks (T.setTop (mkF m pc Ls (x :: y :: st))) := by
  subst hp; exact Wp.step (fun _ k => XS.dupX1 X.here hx rfl hd rfl hc hc' k) K
theorem W.goto (X : Stand p l e R s m args below meth c T locs cells slots) (hx : p.tables.exec = Jvm.exec) {o : Int} (pc' : Nat) (hd : decode c.code pc = .ok (.goto o, 3)) (ho : 0 ≤ (pc : Int) + o) (hp : ((pc : Int) + o).toNat = pc') (K : Wp p e s below Q kc ks (T.setTop (mkF m pc' Ls st))) : Wp p e s below Q kc ks (T.setTop (mkF m pc Ls st)) :=
  Wp.step (fun _ k => XS.goto X.here hx rfl rfl hd ho hp k) K
theorem W.icmp (X : Stand p l e R s m args below meth c T locs cells slots) (hx : p.tables.exec = Jvm.exec) {cd : ClassFile.Cond} {o : Int} {x y : Int32} (pcT pcF : Nat) (hd : decode c.code pc = .ok (.if_icmp cd o, 3)) (ho : 0 ≤ (pc : Int) + o) (hp : ((pc : Int) + o).toNat = pcT) (hq : pc + 3 = pcF) (KT : if_icmp.holds cd x y = true → Wp p e s below Q kc ks (T.setTop (mkF m pcT Ls st))) (KF : if_icmp.holds cd x y = false → Wp p e s below Q kc ks (T.setTop (mkF m pcF Ls st))) : Wp p e s below Q kc ks (T.setTop (mkF m pc Ls (.int y :: .int x :: st))) := by
  subst hq
  cases hh : if_icmp.holds cd x y
  · exact Wp.step (fun _ k => XS.icmpNo X.here hx rfl hd rfl hh k) (KF hh)
  · exact Wp.step (fun _ k => XS.icmpYes X.here hx rfl rfl hd rfl hh ho hp k) (KT hh)
theorem W.ifc (X : Stand p l e R s m args below meth c T locs cells slots) (hx : p.tables.exec = Jvm.exec) {cd : ClassFile.Cond} {o : Int} {x : Int32} (pcT pcF : Nat) (hd : decode c.code pc = .ok (.ifCond cd o, 3)) (ho : 0 ≤ (pc : Int) + o) (hp : ((pc : Int) + o).toNat = pcT) (hq : pc + 3 = pcF) (KT : if_icmp.holds cd x 0 = true → Wp p e s below Q kc ks (T.setTop (mkF m pcT Ls st))) (KF : if_icmp.holds cd x 0 = false → Wp p e s below Q kc ks (T.setTop (mkF m pcF Ls st))) : Wp p e s below Q kc ks (T.setTop (mkF m pc Ls (.int x :: st))) := by
  subst hq
  rw [← if0] at KT KF
  cases hh : ifCond.holds cd x
  · exact Wp.step (fun _ k => XS.ifNo X.here hx rfl hd rfl hh k) (KF hh)
  · exact Wp.step (fun _ k => XS.ifYes X.here hx rfl rfl hd rfl hh ho hp k) (KT hh)
theorem W.icmpEq (X : Stand p l e R s m args below meth c T locs cells slots) (hx : p.tables.exec = Jvm.exec) {o : Int} {x y : Int32} (pcT pcF : Nat) (hd : decode c.code pc = .ok (.if_icmp .eq o, 3)) (ho : 0 ≤ (pc : Int) + o) (hp : ((pc : Int) + o).toNat = pcT) (hq : pc + 3 = pcF) (KT : x = y → Wp p e s below Q kc ks (T.setTop (mkF m pcT Ls st))) (KF : ¬ x = y → Wp p e s below Q kc ks (T.setTop (mkF m pcF Ls st))) : Wp p e s below Q kc ks (T.setTop (mkF m pc Ls (.int y :: .int x :: st))) :=
  W.icmp X hx pcT pcF hd ho hp hq (fun hh => KT (Decidable.byContradiction fun q => by rw [(feq q).1] at hh; cases hh)) (fun hh => KF (fun q => by rw [(teq q).1] at hh; cases hh))
theorem W.ifEq (X : Stand p l e R s m args below meth c T locs cells slots) (hx : p.tables.exec = Jvm.exec) {o : Int} {x : Int32} (pcT pcF : Nat) (hd : decode c.code pc = .ok (.ifCond .eq o, 3)) (ho : 0 ≤ (pc : Int) + o) (hp : ((pc : Int) + o).toNat = pcT) (hq : pc + 3 = pcF) (KT : x = 0 → Wp p e s below Q kc ks (T.setTop (mkF m pcT Ls st))) (KF : ¬ x = 0 → Wp p e s below Q kc ks (T.setTop (mkF m pcF Ls st))) : Wp p e s below Q kc ks (T.setTop (mkF m pc Ls (.int x :: st))) :=
  W.ifc X hx pcT pcF hd ho hp hq (fun hh => KT (Decidable.byContradiction fun q => by rw [(feq q).1] at hh; cases hh)) (fun hh => KF (fun q => by rw [(teq q).1] at hh; cases hh))
theorem W.icmpNe (X : Stand p l e R s m args below meth c T locs cells slots) (hx : p.tables.exec = Jvm.exec) {o : Int} {x y : Int32} (pcT pcF : Nat) (hd : decode c.code pc = .ok (.if_icmp .ne o, 3)) (ho : 0 ≤ (pc : Int) + o) (hp : ((pc : Int) + o).toNat = pcT) (hq : pc + 3 = pcF) (KT : ¬ x = y → Wp p e s below Q kc ks (T.setTop (mkF m pcT Ls st))) (KF : x = y → Wp p e s below Q kc ks (T.setTop (mkF m pcF Ls st))) : Wp p e s below Q kc ks (T.setTop (mkF m pc Ls (.int y :: .int x :: st))) :=
  W.icmp X hx pcT pcF hd ho hp hq (fun hh => KT (fun q => by rw [(teq q).2] at hh; cases hh)) (fun hh => KF (Decidable.byContradiction fun q => by rw [(feq q).2] at hh; cases hh))
theorem W.ifNe (X : Stand p l e R s m args below meth c T locs cells slots) (hx : p.tables.exec = Jvm.exec) {o : Int} {x : Int32} (pcT pcF : Nat) (hd : decode c.code pc = .ok (.ifCond .ne o, 3)) (ho : 0 ≤ (pc : Int) + o) (hp : ((pc : Int) + o).toNat = pcT) (hq : pc + 3 = pcF) (KT : ¬ x = 0 → Wp p e s below Q kc ks (T.setTop (mkF m pcT Ls st))) (KF : x = 0 → Wp p e s below Q kc ks (T.setTop (mkF m pcF Ls st))) : Wp p e s below Q kc ks (T.setTop (mkF m pc Ls (.int x :: st))) :=
  W.ifc X hx pcT pcF hd ho hp hq (fun hh => KT (fun q => by rw [(teq q).2] at hh; cases hh)) (fun hh => KF (Decidable.byContradiction fun q => by rw [(feq q).2] at hh; cases hh))
theorem W.icmpLt (X : Stand p l e R s m args below meth c T locs cells slots) (hx : p.tables.exec = Jvm.exec) {o : Int} {x y : Int32} (pcT pcF : Nat) (hd : decode c.code pc = .ok (.if_icmp .lt o, 3)) (ho : 0 ≤ (pc : Int) + o) (hp : ((pc : Int) + o).toNat = pcT) (hq : pc + 3 = pcF) (KT : x < y → Wp p e s below Q kc ks (T.setTop (mkF m pcT Ls st))) (KF : ¬ x < y → Wp p e s below Q kc ks (T.setTop (mkF m pcF Ls st))) : Wp p e s below Q kc ks (T.setTop (mkF m pc Ls (.int y :: .int x :: st))) :=
  W.icmp X hx pcT pcF hd ho hp hq (fun hh => KT (Decidable.byContradiction fun q => by rw [(flt q).1] at hh; cases hh)) (fun hh => KF (fun q => by rw [(tlt q).1] at hh; cases hh))
theorem W.ifLt (X : Stand p l e R s m args below meth c T locs cells slots) (hx : p.tables.exec = Jvm.exec) {o : Int} {x : Int32} (pcT pcF : Nat) (hd : decode c.code pc = .ok (.ifCond .lt o, 3)) (ho : 0 ≤ (pc : Int) + o) (hp : ((pc : Int) + o).toNat = pcT) (hq : pc + 3 = pcF) (KT : x < 0 → Wp p e s below Q kc ks (T.setTop (mkF m pcT Ls st))) (KF : ¬ x < 0 → Wp p e s below Q kc ks (T.setTop (mkF m pcF Ls st))) : Wp p e s below Q kc ks (T.setTop (mkF m pc Ls (.int x :: st))) :=
  W.ifc X hx pcT pcF hd ho hp hq (fun hh => KT (Decidable.byContradiction fun q => by rw [(flt q).1] at hh; cases hh)) (fun hh => KF (fun q => by rw [(tlt q).1] at hh; cases hh))
theorem W.icmpGe (X : Stand p l e R s m args below meth c T locs cells slots) (hx : p.tables.exec = Jvm.exec) {o : Int} {x y : Int32} (pcT pcF : Nat) (hd : decode c.code pc = .ok (.if_icmp .ge o, 3)) (ho : 0 ≤ (pc : Int) + o) (hp : ((pc : Int) + o).toNat = pcT) (hq : pc + 3 = pcF) (KT : ¬ x < y → Wp p e s below Q kc ks (T.setTop (mkF m pcT Ls st))) (KF : x < y → Wp p e s below Q kc ks (T.setTop (mkF m pcF Ls st))) : Wp p e s below Q kc ks (T.setTop (mkF m pc Ls (.int y :: .int x :: st))) :=
  W.icmp X hx pcT pcF hd ho hp hq (fun hh => KT (fun q => by rw [(tlt q).2.1] at hh; cases hh)) (fun hh => KF (Decidable.byContradiction fun q => by rw [(flt q).2.1] at hh; cases hh))
theorem W.ifGe (X : Stand p l e R s m args below meth c T locs cells slots) (hx : p.tables.exec = Jvm.exec) {o : Int} {x : Int32} (pcT pcF : Nat) (hd : decode c.code pc = .ok (.ifCond .ge o, 3)) (ho : 0 ≤ (pc : Int) + o) (hp : ((pc : Int) + o).toNat = pcT) (hq : pc + 3 = pcF) (KT : ¬ x < 0 → Wp p e s below Q kc ks (T.setTop (mkF m pcT Ls st))) (KF : x < 0 → Wp p e s below Q kc ks (T.setTop (mkF m pcF Ls st))) : Wp p e s below Q kc ks (T.setTop (mkF m pc Ls (.int x :: st))) :=
  W.ifc X hx pcT pcF hd ho hp hq (fun hh => KT (fun q => by rw [(tlt q).2.1] at hh; cases hh)) (fun hh => KF (Decidable.byContradiction fun q => by rw [(flt q).2.1] at hh; cases hh))
theorem W.icmpGt (X : Stand p l e R s m args below meth c T locs cells slots) (hx : p.tables.exec = Jvm.exec) {o : Int} {x y : Int32} (pcT pcF : Nat) (hd : decode c.code pc = .ok (.if_icmp .gt o, 3)) (ho : 0 ≤ (pc : Int) + o) (hp : ((pc : Int) + o).toNat = pcT) (hq : pc + 3 = pcF) (KT : y < x → Wp p e s below Q kc ks (T.setTop (mkF m pcT Ls st))) (KF : ¬ y < x → Wp p e s below Q kc ks (T.setTop (mkF m pcF Ls st))) : Wp p e s below Q kc ks (T.setTop (mkF m pc Ls (.int y :: .int x :: st))) :=
  W.icmp X hx pcT pcF hd ho hp hq (fun hh => KT (Decidable.byContradiction fun q => by rw [(flt q).2.2.1] at hh; cases hh)) (fun hh => KF (fun q => by rw [(tlt q).2.2.1] at hh; cases hh))
theorem W.ifGt (X : Stand p l e R s m args below meth c T locs cells slots) (hx : p.tables.exec = Jvm.exec) {o : Int} {x : Int32} (pcT pcF : Nat) (hd : decode c.code pc = .ok (.ifCond .gt o, 3)) (ho : 0 ≤ (pc : Int) + o) (hp : ((pc : Int) + o).toNat = pcT) (hq : pc + 3 = pcF) (KT : 0 < x → Wp p e s below Q kc ks (T.setTop (mkF m pcT Ls st))) (KF : ¬ 0 < x → Wp p e s below Q kc ks (T.setTop (mkF m pcF Ls st))) : Wp p e s below Q kc ks (T.setTop (mkF m pc Ls (.int x :: st))) :=
  W.ifc X hx pcT pcF hd ho hp hq (fun hh => KT (Decidable.byContradiction fun q => by rw [(flt q).2.2.1] at hh; cases hh)) (fun hh => KF (fun q => by rw [(tlt q).2.2.1] at hh; cases hh))
theorem W.icmpLe (X : Stand p l e R s m args below meth c T locs cells slots) (hx : p.tables.exec = Jvm.exec) {o : Int} {x y : Int32} (pcT pcF : Nat) (hd : decode c.code pc = .ok (.if_icmp .le o, 3)) (ho : 0 ≤ (pc : Int) + o) (hp : ((pc : Int) + o).toNat = pcT) (hq : pc + 3 = pcF) (KT : ¬ y < x → Wp p e s below Q kc ks (T.setTop (mkF m pcT Ls st))) (KF : y < x → Wp p e s below Q kc ks (T.setTop (mkF m pcF Ls st))) : Wp p e s below Q kc ks (T.setTop (mkF m pc Ls (.int y :: .int x :: st))) :=
  W.icmp X hx pcT pcF hd ho hp hq (fun hh => KT (fun q => by rw [(tlt q).2.2.2] at hh; cases hh)) (fun hh => KF (Decidable.byContradiction fun q => by rw [(flt q).2.2.2] at hh; cases hh))
theorem W.ifLe (X : Stand p l e R s m args below meth c T locs cells slots) (hx : p.tables.exec = Jvm.exec) {o : Int} {x : Int32} (pcT pcF : Nat) (hd : decode c.code pc = .ok (.ifCond .le o, 3)) (ho : 0 ≤ (pc : Int) + o) (hp : ((pc : Int) + o).toNat = pcT) (hq : pc + 3 = pcF) (KT : ¬ 0 < x → Wp p e s below Q kc ks (T.setTop (mkF m pcT Ls st))) (KF : 0 < x → Wp p e s below Q kc ks (T.setTop (mkF m pcF Ls st))) : Wp p e s below Q kc ks (T.setTop (mkF m pc Ls (.int x :: st))) :=
  W.ifc X hx pcT pcF hd ho hp hq (fun hh => KT (fun q => by rw [(tlt q).2.2.2] at hh; cases hh)) (fun hh => KF (Decidable.byContradiction fun q => by rw [(flt q).2.2.2] at hh; cases hh))
theorem W.lifEq (X : Stand p l e R s m args below meth c T locs cells slots) (hx : p.tables.exec = Jvm.exec) {o : Int} {x y : Int64} (pcT pcF : Nat) (hd : decode c.code pc = .ok (.ifCond .eq o, 3)) (ho : 0 ≤ (pc : Int) + o) (hp : ((pc : Int) + o).toNat = pcT) (hq : pc + 3 = pcF) (KT : x = y → Wp p e s below Q kc ks (T.setTop (mkF m pcT Ls st))) (KF : ¬ x = y → Wp p e s below Q kc ks (T.setTop (mkF m pcF Ls st))) : Wp p e s below Q kc ks (T.setTop (mkF m pc Ls (.int (lcmpW x y) :: st))) :=
  W.ifEq X hx pcT pcF hd ho hp hq (fun q => KT ((lw_eq x y).mp q)) (fun q => KF (fun r => q ((lw_eq x y).mpr r)))
theorem W.lifNe (X : Stand p l e R s m args below meth c T locs cells slots) (hx : p.tables.exec = Jvm.exec) {o : Int} {x y : Int64} (pcT pcF : Nat) (hd : decode c.code pc = .ok (.ifCond .ne o, 3)) (ho : 0 ≤ (pc : Int) + o) (hp : ((pc : Int) + o).toNat = pcT) (hq : pc + 3 = pcF) (KT : ¬ x = y → Wp p e s below Q kc ks (T.setTop (mkF m pcT Ls st))) (KF : x = y → Wp p e s below Q kc ks (T.setTop (mkF m pcF Ls st))) : Wp p e s below Q kc ks (T.setTop (mkF m pc Ls (.int (lcmpW x y) :: st))) :=
  W.ifNe X hx pcT pcF hd ho hp hq (fun q => KT (fun r => q ((lw_eq x y).mpr r))) (fun q => KF ((lw_eq x y).mp q))
theorem W.lifLt (X : Stand p l e R s m args below meth c T locs cells slots) (hx : p.tables.exec = Jvm.exec) {o : Int} {x y : Int64} (pcT pcF : Nat) (hd : decode c.code pc = .ok (.ifCond .lt o, 3)) (ho : 0 ≤ (pc : Int) + o) (hp : ((pc : Int) + o).toNat = pcT) (hq : pc + 3 = pcF) (KT : x < y → Wp p e s below Q kc ks (T.setTop (mkF m pcT Ls st))) (KF : ¬ x < y → Wp p e s below Q kc ks (T.setTop (mkF m pcF Ls st))) : Wp p e s below Q kc ks (T.setTop (mkF m pc Ls (.int (lcmpW x y) :: st))) :=
  W.ifLt X hx pcT pcF hd ho hp hq (fun q => KT ((lw_lt x y).mp q)) (fun q => KF (fun r => q ((lw_lt x y).mpr r)))
theorem W.lifGe (X : Stand p l e R s m args below meth c T locs cells slots) (hx : p.tables.exec = Jvm.exec) {o : Int} {x y : Int64} (pcT pcF : Nat) (hd : decode c.code pc = .ok (.ifCond .ge o, 3)) (ho : 0 ≤ (pc : Int) + o) (hp : ((pc : Int) + o).toNat = pcT) (hq : pc + 3 = pcF) (KT : ¬ x < y → Wp p e s below Q kc ks (T.setTop (mkF m pcT Ls st))) (KF : x < y → Wp p e s below Q kc ks (T.setTop (mkF m pcF Ls st))) : Wp p e s below Q kc ks (T.setTop (mkF m pc Ls (.int (lcmpW x y) :: st))) :=
  W.ifGe X hx pcT pcF hd ho hp hq (fun q => KT (fun r => q ((lw_lt x y).mpr r))) (fun q => KF ((lw_lt x y).mp q))
theorem W.lifGt (X : Stand p l e R s m args below meth c T locs cells slots) (hx : p.tables.exec = Jvm.exec) {o : Int} {x y : Int64} (pcT pcF : Nat) (hd : decode c.code pc = .ok (.ifCond .gt o, 3)) (ho : 0 ≤ (pc : Int) + o) (hp : ((pc : Int) + o).toNat = pcT) (hq : pc + 3 = pcF) (KT : y < x → Wp p e s below Q kc ks (T.setTop (mkF m pcT Ls st))) (KF : ¬ y < x → Wp p e s below Q kc ks (T.setTop (mkF m pcF Ls st))) : Wp p e s below Q kc ks (T.setTop (mkF m pc Ls (.int (lcmpW x y) :: st))) :=
  W.ifGt X hx pcT pcF hd ho hp hq (fun q => KT ((lw_gt x y).mp q)) (fun q => KF (fun r => q ((lw_gt x y).mpr r)))
theorem W.lifLe (X : Stand p l e R s m args below meth c T locs cells slots) (hx : p.tables.exec = Jvm.exec) {o : Int} {x y : Int64} (pcT pcF : Nat) (hd : decode c.code pc = .ok (.ifCond .le o, 3)) (ho : 0 ≤ (pc : Int) + o) (hp : ((pc : Int) + o).toNat = pcT) (hq : pc + 3 = pcF) (KT : ¬ y < x → Wp p e s below Q kc ks (T.setTop (mkF m pcT Ls st))) (KF : y < x → Wp p e s below Q kc ks (T.setTop (mkF m pcF Ls st))) : Wp p e s below Q kc ks (T.setTop (mkF m pc Ls (.int (lcmpW x y) :: st))) :=
  W.ifLe X hx pcT pcF hd ho hp hq (fun q => KT (fun r => q ((lw_gt x y).mpr r))) (fun q => KF ((lw_gt x y).mp q))
theorem W.nonnullR (X : Stand p l e R s m args below meth c T locs cells slots) (hx : p.tables.exec = Jvm.exec) {o : Int} {b : Addr} (pcT : Nat) (hd : decode c.code pc = .ok (.ifnonnull o, 3)) (ho : 0 ≤ (pc : Int) + o) (hp : ((pc : Int) + o).toNat = pcT) (K : Wp p e s below Q kc ks (T.setTop (mkF m pcT Ls st))) : Wp p e s below Q kc ks (T.setTop (mkF m pc Ls (.ref b :: st))) :=
  Wp.step (fun _ k => XS.ifnonnullYes X.here hx rfl rfl hd rfl ho hp k) K
theorem W.nonnullN (X : Stand p l e R s m args below meth c T locs cells slots) (hx : p.tables.exec = Jvm.exec) {o : Int} (pc' : Nat) (hd : decode c.code pc = .ok (.ifnonnull o, 3)) (hp : pc + 3 = pc') (K : Wp p e s below Q kc ks (T.setTop (mkF m pc' Ls st))) : Wp p e s below Q kc ks (T.setTop (mkF m pc Ls (.null :: st))) := by
  subst hp; exact Wp.step (fun _ k => XS.ifnonnullNo X.here hx rfl hd rfl k) K
theorem W.nullN (X : Stand p l e R s m args below meth c T locs cells slots) (hx : p.tables.exec = Jvm.exec) {o : Int} (pcT : Nat) (hd : decode c.code pc = .ok (.ifnull o, 3)) (ho : 0 ≤ (pc : Int) + o) (hp : ((pc : Int) + o).toNat = pcT) (K : Wp p e s below Q kc ks (T.setTop (mkF m pcT Ls st))) : Wp p e s below Q kc ks (T.setTop (mkF m pc Ls (.null :: st))) :=
  Wp.step (fun _ k => XS.ifnullYes X.here hx rfl rfl hd rfl ho hp k) K
theorem W.nullR (X : Stand p l e R s m args below meth c T locs cells slots) (hx : p.tables.exec = Jvm.exec) {o : Int} {b : Addr} (pc' : Nat) (hd : decode c.code pc = .ok (.ifnull o, 3)) (hp : pc + 3 = pc') (K : Wp p e s below Q kc ks (T.setTop (mkF m pc' Ls st))) : Wp p e s below Q kc ks (T.setTop (mkF m pc Ls (.ref b :: st))) := by
  subst hp; exact Wp.step (fun _ k => XS.ifnullNo X.here hx rfl hd rfl k) K
theorem W.acmpE (X : Stand p l e R s m args below meth c T locs cells slots) (hx : p.tables.exec = Jvm.exec) {o : Int} {x y : Value} (pcT pcF : Nat) (h1 : x.isRef = true) (h2 : y.isRef = true) (hd : decode c.code pc = .ok (.if_acmp .eq o, 3)) (ho : 0 ≤ (pc : Int) + o) (hp : ((pc : Int) + o).toNat = pcT) (hq : pc + 3 = pcF) (KT : x = y → Wp p e s below Q kc ks (T.setTop (mkF m pcT Ls st))) (KF : ¬ x = y → Wp p e s below Q kc ks (T.setTop (mkF m pcF Ls st))) : Wp p e s below Q kc ks (T.setTop (mkF m pc Ls (y :: x :: st))) := by
  by_cases q : x = y
  · exact Wp.step (fun _ k => acmp X hx (g := mkF m pc Ls (y :: x :: st)) rfl h1 h2 rfl hd rfl (same := true) (by simp [q]) ho (pc' := pcT) (by simp [acV, hp]) k) (KT q)
  · exact Wp.step (fun _ k => acmp X hx (g := mkF m pc Ls (y :: x :: st)) rfl h1 h2 rfl hd rfl (same := false) (by simp [q]) ho (pc' := pcF) (by simp [acV, hq]) k) (KF q)
theorem W.acmpN (X : Stand p l e R s m args below meth c T locs cells slots) (hx : p.tables.exec = Jvm.exec) {o : Int} {x y : Value} (pcT pcF : Nat) (h1 : x.isRef = true) (h2 : y.isRef = true) (hd : decode c.code pc = .ok (.if_acmp .ne o, 3)) (ho : 0 ≤ (pc : Int) + o) (hp : ((pc : Int) + o).toNat = pcT) (hq : pc + 3 = pcF) (KT : ¬ x = y → Wp p e s below Q kc ks (T.setTop (mkF m pcT Ls st))) (KF : x = y → Wp p e s below Q kc ks (T.setTop (mkF m pcF Ls st))) : Wp p e s below Q kc ks (T.setTop (mkF m pc Ls (y :: x :: st))) := by
  by_cases q : x = y
  · exact Wp.step (fun _ k => acmp X hx (g := mkF m pc Ls (y :: x :: st)) rfl h1 h2 rfl hd rfl (same := true) (by simp [q]) ho (pc' := pcF) (by simp [acV, hq]) k) (KF q)
  · exact Wp.step (fun _ k => acmp X hx (g := mkF m pc Ls (y :: x :: st)) rfl h1 h2 rfl hd rfl (same := false) (by simp [q]) ho (pc' := pcT) (by simp [acV, hp]) k) (KT q)
theorem W.newarr (X : Stand p l e R s m args below meth c T locs cells slots) (hx : p.tables.exec = Jvm.exec) (hZ : Z.Warmed39 s.vm) {aty : ArrayType} {z : Int32} (pc' : Nat) (k cap : Nat) (w : (Jvm.Cond.arrayClass (newarray.typeOf aty)).before a0 Z = true) (eT : T.heap = h) (hd : decode c.code pc = .ok (.newarray aty, 2)) (hz : z.toInt = (k : Int)) (hcap : k ≤ cap) (hb : cap * 8 ≤ 536870912) (hc : cells + 1 ≤ R.cells) (hl : slots + cap ≤ R.slots) (hp : pc + 2 = pc')
    (K : ∀ T' h', Stand p l e R s m args below meth c T' locs (cells + 1) (slots + cap) → T'.heap = h' → Ext h h' → IArr Z h' h.size (newarray.typeOf aty) k (fun _ => defaultValue (newarray.typeOf aty)) → Wp p e s below Q kc ks (T'.setTop (mkF m pc' Ls (.ref h.size :: st)))) : Wp p e s below Q kc ks (T.setTop (mkF m pc Ls (.int z :: st))) := by
  subst hp
  obtain ⟨q1, q2⟩ := nat_of hz
  obtain ⟨T', h', cA, X', e', E, A, stp⟩ := newP X hx hZ w eT (g := mkF m pc Ls (.int z :: st)) rfl hd rfl q1 (cap := cap) (by omega) hb hc hl
  exact Wp.step stp (K T' h' X' e' E (IArr.fresh A q2))
theorem IArr.inb {j : Int32} {i : Nat} {cl : Cell} (S : cl.slots.size = n) (hj : j.toInt = (i : Int)) (hi : i < n) : ¬ (j < 0 ∨ cl.slots.size ≤ j.toNatClampNeg) := by
  obtain ⟨q1, q2⟩ := nat_of hj
  rw [S, q2]; intro q; rcases q with q | q
  · exact q1 q
  · omega
theorem W.arrlen (X : Stand p l e R s m args below meth c T locs cells slots) (hx : p.tables.exec = Jvm.exec) (hZ : Z.Warmed39 s.vm) (pc' : Nat) (eT : T.heap = h) (A : IArr Z h a ty n f) (v : Int32) (hv : n.toInt32 = v) (hd : decode c.code pc = .ok (.arraylength, 1)) (hp : pc + 1 = pc') (K : Wp p e s below Q kc ks (T.setTop (mkF m pc' Ls (.int v :: st)))) : Wp p e s below Q kc ks (T.setTop (mkF m pc Ls (.ref a :: st))) := by
  subst hp hv
  obtain ⟨cl, A, S, H⟩ := A
  subst S
  exact Wp.step (fun t k => X.arraylength hx (by rw [eT]; exact A.1) (State.isArrayOf_alike hZ.alike A.2.1) (g := mkF m pc Ls (.ref a :: st)) rfl rfl hd t k) K
theorem W.iaload (X : Stand p l e R s m args below meth c T locs cells slots) (hx : p.tables.exec = Jvm.exec) (hZ : Z.Warmed39 s.vm) {j : Int32} (pc' : Nat) (i : Nat) (v : Value) (eT : T.heap = h) (A : IArr Z h a .int n f) (hj : j.toInt = (i : Int)) (hi : i < n) (hv : f i = v) (hd : decode c.code pc = .ok (.iaload, 1)) (hp : pc + 1 = pc') (K : Wp p e s below Q kc ks (T.setTop (mkF m pc' Ls (v :: st)))) : Wp p e s below Q kc ks (T.setTop (mkF m pc Ls (.int j :: .ref a :: st))) := by
  subst hp hv
  obtain ⟨cl, A, S, H⟩ := A
  exact Wp.step (fun t k => X.iaload hx (by rw [eT]; exact A.1) (State.isArrayOf_alike hZ.alike A.2.1) A.2.2 (IArr.inb S hj hi) (by rw [(nat_of hj).2]; exact H i hi) (g := mkF m pc Ls (.int j :: .ref a :: st)) rfl rfl hd t k) K
theorem W.laload (X : Stand p l e R s m args below meth c T locs cells slots) (hx : p.tables.exec = Jvm.exec) (hZ : Z.Warmed39 s.vm) {j : Int32} (pc' : Nat) (i : Nat) (v : Value) (eT : T.heap = h) (A : IArr Z h a .long n f) (hj : j.toInt = (i : Int)) (hi : i < n) (hv : f i = v) (hd : decode c.code pc = .ok (.laload, 1)) (hp : pc + 1 = pc') (K : Wp p e s below Q kc ks (T.setTop (mkF m pc' Ls (v :: st)))) : Wp p e s below Q kc ks (T.setTop (mkF m pc Ls (.int j :: .ref a :: st))) := by
  subst hp hv
  obtain ⟨cl, A, S, H⟩ := A
  exact Wp.step (fun t k => X.laload hx (by rw [eT]; exact A.1) (State.isArrayOf_alike hZ.alike A.2.1) A.2.2 (IArr.inb S hj hi) (by rw [(nat_of hj).2]; exact H i hi) (g := mkF m pc Ls (.int j :: .ref a :: st)) rfl rfl hd t k) K
theorem W.caload (X : Stand p l e R s m args below meth c T locs cells slots) (hx : p.tables.exec = Jvm.exec) (hZ : Z.Warmed39 s.vm) {j : Int32} (pc' : Nat) (i : Nat) (v : Value) (eT : T.heap = h) (A : IArr Z h a .char n f) (hj : j.toInt = (i : Int)) (hi : i < n) (hv : f i = v) (hd : decode c.code pc = .ok (.caload, 1)) (hp : pc + 1 = pc') (K : Wp p e s below Q kc ks (T.setTop (mkF m pc' Ls (v :: st)))) : Wp p e s below Q kc ks (T.setTop (mkF m pc Ls (.int j :: .ref a :: st))) := by
  subst hp hv
  obtain ⟨cl, A, S, H⟩ := A
  exact Wp.step (fun t k => X.caload hx (by rw [eT]; exact A.1) (State.isArrayOf_alike hZ.alike A.2.1) A.2.2 (IArr.inb S hj hi) (by rw [(nat_of hj).2]; exact H i hi) (g := mkF m pc Ls (.int j :: .ref a :: st)) rfl rfl hd t k) K
theorem W.baload (X : Stand p l e R s m args below meth c T locs cells slots) (hx : p.tables.exec = Jvm.exec) (hZ : Z.Warmed39 s.vm) {j : Int32} (pc' : Nat) (i : Nat) (v : Value) (eT : T.heap = h) (A : IArr Z h a .byte n f) (hj : j.toInt = (i : Int)) (hi : i < n) (hv : f i = v) (hd : decode c.code pc = .ok (.baload, 1)) (hp : pc + 1 = pc') (K : Wp p e s below Q kc ks (T.setTop (mkF m pc' Ls (v :: st)))) : Wp p e s below Q kc ks (T.setTop (mkF m pc Ls (.int j :: .ref a :: st))) := by
  subst hp hv
  obtain ⟨cl, A, S, H⟩ := A
  exact Wp.step (fun t k => X.baloadBytes hx (by rw [eT]; exact A.1) (State.isArrayOf_alike hZ.alike A.2.1) A.2.2 (IArr.inb S hj hi) (by rw [(nat_of hj).2]; exact H i hi) (g := mkF m pc Ls (.int j :: .ref a :: st)) rfl rfl hd t k) K
theorem W.zaload (X : Stand p l e R s m args below meth c T locs cells slots) (hx : p.tables.exec = Jvm.exec) (hZ : Z.Warmed39 s.vm) {j : Int32} (pc' : Nat) (i : Nat) (v : Value) (eT : T.heap = h) (A : IArr Z h a .boolean n f) (hj : j.toInt = (i : Int)) (hi : i < n) (hv : f i = v) (hd : decode c.code pc = .ok (.baload, 1)) (hp : pc + 1 = pc') (K : Wp p e s below Q kc ks (T.setTop (mkF m pc' Ls (v :: st)))) : Wp p e s below Q kc ks (T.setTop (mkF m pc Ls (.int j :: .ref a :: st))) := by
  subst hp hv
  obtain ⟨cl, A, S, H⟩ := A
  exact Wp.step (fun t k => X.baloadBooleans hx (by rw [eT]; exact A.1) (State.isArrayOf_alike hZ.alike A.2.1) A.2.2 (IArr.inb S hj hi) (by rw [(nat_of hj).2]; exact H i hi) (g := mkF m pc Ls (.int j :: .ref a :: st)) rfl rfl hd t k) K
theorem W.aaload (X : Stand p l e R s m args below meth c T locs cells slots) (hx : p.tables.exec = Jvm.exec) (hZ : Z.Warmed39 s.vm) {j : Int32} (pc' : Nat) (i : Nat) (v : Value) (eT : T.heap = h) (A : IArr Z h a ty n f) (hty : ty.isReference = true) (hj : j.toInt = (i : Int)) (hi : i < n) (hv : f i = v) (hd : decode c.code pc = .ok (.aaload, 1)) (hp : pc + 1 = pc') (K : Wp p e s below Q kc ks (T.setTop (mkF m pc' Ls (v :: st)))) : Wp p e s below Q kc ks (T.setTop (mkF m pc Ls (.int j :: .ref a :: st))) := by
  subst hp hv
  obtain ⟨cl, A, S, H⟩ := A
  exact Wp.step (fun t k => X.aaload hx (by rw [eT]; exact A.1) (State.isArrayOf_alike hZ.alike A.2.1) hty A.2.2 (IArr.inb S hj hi) (by rw [(nat_of hj).2]; exact H i hi) (g := mkF m pc Ls (.int j :: .ref a :: st)) rfl rfl hd t k) K
theorem W.iastore (X : Stand p l e R s m args below meth c T locs cells slots) (hx : p.tables.exec = Jvm.exec) (hZ : Z.Warmed39 s.vm) {j : Int32} {x : Int32} (pc' : Nat) (i : Nat) (eT : T.heap = h) (A : IArr Z h a .int n f) (hj : j.toInt = (i : Int)) (hi : i < n) (hd : decode c.code pc = .ok (.iastore, 1)) (hp : pc + 1 = pc')
    (K : ∀ T' h', Stand p l e R s m args below meth c T' (locs ++ [⟨a, i⟩]) cells slots → T'.heap = h' → Wr h h' a i (.int x) → IArr Z h' a .int n (upd f i (.int x)) → Wp p e s below Q kc ks (T'.setTop (mkF m pc' Ls st))) : Wp p e s below Q kc ks (T.setTop (mkF m pc Ls (.int x :: .int j :: .ref a :: st))) := by
  subst hp
  obtain ⟨cl, A0, S, H⟩ := A
  obtain ⟨T', h', X', e', W, stp⟩ := stI X hx hZ eT A0 (IArr.inb S hj hi) (g := mkF m pc Ls (.int x :: .int j :: .ref a :: st)) rfl rfl hd
  rw [(nat_of hj).2] at X' W
  exact Wp.step stp (K T' h' X' e' W (IArr.same ⟨cl, A0, S, H⟩ W))
theorem W.lastore (X : Stand p l e R s m args below meth c T locs cells slots) (hx : p.tables.exec = Jvm.exec) (hZ : Z.Warmed39 s.vm) {j : Int32} {x : Int64} (pc' : Nat) (i : Nat) (eT : T.heap = h) (A : IArr Z h a .long n f) (hj : j.toInt = (i : Int)) (hi : i < n) (hd : decode c.code pc = .ok (.lastore, 1)) (hp : pc + 1 = pc')
    (K : ∀ T' h', Stand p l e R s m args below meth c T' (locs ++ [⟨a, i⟩]) cells slots → T'.heap = h' → Wr h h' a i (.long x) → IArr Z h' a .long n (upd f i (.long x)) → Wp p e s below Q kc ks (T'.setTop (mkF m pc' Ls st))) : Wp p e s below Q kc ks (T.setTop (mkF m pc Ls (.long x :: .int j :: .ref a :: st))) := by
  subst hp
  obtain ⟨cl, A0, S, H⟩ := A
  obtain ⟨T', h', X', e', W, stp⟩ := stJ X hx hZ eT A0 (IArr.inb S hj hi) (g := mkF m pc Ls (.long x :: .int j :: .ref a :: st)) rfl rfl hd
  rw [(nat_of hj).2] at X' W
  exact Wp.step stp (K T' h' X' e' W (IArr.same ⟨cl, A0, S, H⟩ W))
theorem W.castore (X : Stand p l e R s m args below meth c T locs cells slots) (hx : p.tables.exec = Jvm.exec) (hZ : Z.Warmed39 s.vm) {j : Int32} {x : Int32} (pc' : Nat) (i : Nat) (eT : T.heap = h) (A : IArr Z h a .char n f) (hj : j.toInt = (i : Int)) (hi : i < n) (hd : decode c.code pc = .ok (.castore, 1)) (hp : pc + 1 = pc')
    (K : ∀ T' h', Stand p l e R s m args below meth c T' (locs ++ [⟨a, i⟩]) cells slots → T'.heap = h' → Wr h h' a i (.int (nar .char x)) → IArr Z h' a .char n (upd f i (.int (nar .char x))) → Wp p e s below Q kc ks (T'.setTop (mkF m pc' Ls st))) : Wp p e s below Q kc ks (T.setTop (mkF m pc Ls (.int x :: .int j :: .ref a :: st))) := by
  subst hp
  obtain ⟨cl, A0, S, H⟩ := A
  obtain ⟨T', h', X', e', W, stp⟩ := stC X hx hZ eT A0 (IArr.inb S hj hi) (g := mkF m pc Ls (.int x :: .int j :: .ref a :: st)) rfl rfl hd
  rw [(nat_of hj).2] at X' W
  exact Wp.step stp (K T' h' X' e' W (IArr.same ⟨cl, A0, S, H⟩ W))
theorem W.bastore (X : Stand p l e R s m args below meth c T locs cells slots) (hx : p.tables.exec = Jvm.exec) (hZ : Z.Warmed39 s.vm) {j : Int32} {x : Int32} (pc' : Nat) (i : Nat) (eT : T.heap = h) (A : IArr Z h a .byte n f) (hj : j.toInt = (i : Int)) (hi : i < n) (hd : decode c.code pc = .ok (.bastore, 1)) (hp : pc + 1 = pc')
    (K : ∀ T' h', Stand p l e R s m args below meth c T' (locs ++ [⟨a, i⟩]) cells slots → T'.heap = h' → Wr h h' a i (.int (nar .byte x)) → IArr Z h' a .byte n (upd f i (.int (nar .byte x))) → Wp p e s below Q kc ks (T'.setTop (mkF m pc' Ls st))) : Wp p e s below Q kc ks (T.setTop (mkF m pc Ls (.int x :: .int j :: .ref a :: st))) := by
  subst hp
  obtain ⟨cl, A0, S, H⟩ := A
  obtain ⟨T', h', X', e', W, stp⟩ := stB X hx hZ eT A0 (IArr.inb S hj hi) (g := mkF m pc Ls (.int x :: .int j :: .ref a :: st)) rfl rfl hd
  rw [(nat_of hj).2] at X' W
  exact Wp.step stp (K T' h' X' e' W (IArr.same ⟨cl, A0, S, H⟩ W))
theorem W.zastore (X : Stand p l e R s m args below meth c T locs cells slots) (hx : p.tables.exec = Jvm.exec) (hZ : Z.Warmed39 s.vm) {j : Int32} {x : Int32} (pc' : Nat) (i : Nat) (eT : T.heap = h) (A : IArr Z h a .boolean n f) (hj : j.toInt = (i : Int)) (hi : i < n) (hd : decode c.code pc = .ok (.bastore, 1)) (hp : pc + 1 = pc')
    (K : ∀ T' h', Stand p l e R s m args below meth c T' (locs ++ [⟨a, i⟩]) cells slots → T'.heap = h' → Wr h h' a i (.int (nar .boolean x)) → IArr Z h' a .boolean n (upd f i (.int (nar .boolean x))) → Wp p e s below Q kc ks (T'.setTop (mkF m pc' Ls st))) : Wp p e s below Q kc ks (T.setTop (mkF m pc Ls (.int x :: .int j :: .ref a :: st))) := by
  subst hp
  obtain ⟨cl, A0, S, H⟩ := A
  obtain ⟨T', h', X', e', W, stp⟩ := stZ X hx hZ eT A0 (IArr.inb S hj hi) (g := mkF m pc Ls (.int x :: .int j :: .ref a :: st)) rfl rfl hd
  rw [(nat_of hj).2] at X' W
  exact Wp.step stp (K T' h' X' e' W (IArr.same ⟨cl, A0, S, H⟩ W))
theorem W.getS (X : Stand p l e R s m args below meth c T locs cells slots) (hx : p.tables.exec = Jvm.exec) (hZ : Z.Warmed39 s.vm) {own R0 O nm d : String} {index : Nat} {v : Value} (pc' : Nat) (hown : s.vm.findClass own = some m.cls) (w : (Jvm.Cond.fieldLink own index R0 nm d).before a0 Z = true) (via : Via Z R0 O nm d) (eT : T.heap = h) (F : Sta Z h O nm d v) (hd : decode c.code pc = .ok (.getstatic index, 3)) (hp : pc + 3 = pc')
    (K : ∀ T', Stand p l e R s m args below meth c T' locs cells slots → T'.heap = h → Wp p e s below Q kc ks (T'.setTop (mkF m pc' Ls (v :: st)))) : Wp p e s below Q kc ks (T.setTop (mkF m pc Ls st)) := by
  subst hp
  obtain ⟨T', X', e', stp⟩ := Jvm.RoadKit.getS X hx hZ (host := "") hown w via eT F (g := mkF m pc Ls st) rfl hd
  exact Wp.step stp (K T' X' e')
theorem W.getF (X : Stand p l e R s m args below meth c T locs cells slots) (hx : p.tables.exec = Jvm.exec) (hZ : Z.Warmed39 s.vm) {own R0 O nm d : String} {index : Nat} {v : Value} (pc' : Nat) (hown : s.vm.findClass own = some m.cls) (w : (Jvm.Cond.fieldLink own index R0 nm d).before a0 Z = true) (via : Via Z R0 O nm d) (eT : T.heap = h) (F : Fld Z h a O nm d v) (hd : decode c.code pc = .ok (.getfield index, 3)) (hp : pc + 3 = pc')
    (K : ∀ T', Stand p l e R s m args below meth c T' locs cells slots → T'.heap = h → Wp p e s below Q kc ks (T'.setTop (mkF m pc' Ls (v :: st)))) : Wp p e s below Q kc ks (T.setTop (mkF m pc Ls (.ref a :: st))) := by
  subst hp
  obtain ⟨T', X', e', stp⟩ := Jvm.RoadKit.getF X hx hZ (host := "") hown (Or.inl w) via eT F (g := mkF m pc Ls (.ref a :: st)) rfl rfl hd
  exact Wp.step stp (K T' X' e')
theorem W.putF (X : Stand p l e R s m args below meth c T locs cells slots) (hx : p.tables.exec = Jvm.exec) (hZ : Z.Warmed39 s.vm) {own R0 O nm d C : String} {index kk : Nat} {v old : Value} {ty : FieldType} (pc' : Nat) (hown : s.vm.findClass own = some m.cls) (w : (Jvm.Cond.fieldLink own index R0 nm d).before a0 Z = true) (via : Via Z R0 O nm d) (eT : T.heap = h) (F : Fld Z h a O nm d old) (E : Exa Z h a C) (L : (Jvm.Cond.lays C O nm d).before a0 Z = true ∨ ((Jvm.Cond.laysFinal C O nm d).before a0 Z = true ∧ own = O ∧ meth.name = "<init>")) (wi : (Jvm.Cond.instantiable C kk).before a0 Z = true)
    (hty : parseFieldDescriptor d = some ty) (hn : narrow ty v = v) (hf : fits ty v = true) (hd : decode c.code pc = .ok (.putfield index, 3)) (hp : pc + 3 = pc')
    (K : ∀ T' h', Stand p l e R s m args below meth c T' (locs ++ [⟨a, Jvm.RoadKit.slotOf Z O nm d⟩]) cells slots → T'.heap = h' → Wr h h' a (Jvm.RoadKit.slotOf Z O nm d) v → Fld Z h' a O nm d v → Wp p e s below Q kc ks (T'.setTop (mkF m pc' Ls st))) : Wp p e s below Q kc ks (T.setTop (mkF m pc Ls (v :: .ref a :: st))) := by
  subst hp
  obtain ⟨T', h', X', e', W, stp⟩ := Jvm.RoadKit.putF X hx hZ hown (host := "") (Or.inl w) via eT F E L wi hty hn hf (g := mkF m pc Ls (v :: .ref a :: st)) rfl rfl hd
  exact Wp.step stp (K T' h' X' e' W (F.same W))
theorem W.newO (X : Stand p l e R s m args below meth c T locs cells slots) (hx : p.tables.exec = Jvm.exec) (hZ : Z.Warmed39 s.vm) {own C : String} {index k : Nat} (pc' : Nat) (hown : s.vm.findClass own = some m.cls) (w : (Jvm.Cond.classLink own index C).before a0 Z = true) (wi : (Jvm.Cond.instantiable C k).before a0 Z = true) (wz : (Jvm.Cond.initialized C).before a0 Z = true) (eT : T.heap = h) (hd : decode c.code pc = .ok (.new index, 3)) (hc : cells + 1 ≤ R.cells) (hl : slots + k ≤ R.slots) (hp : pc + 3 = pc')
    (K : ∀ T' h', Stand p l e R s m args below meth c T' locs (cells + 1) (slots + k) → T'.heap = h' → Ext h h' → Exa Z h' h.size C → (∀ {O nm d : String} {ty : FieldType}, Laid Z a0 C O nm d → parseFieldDescriptor d = some ty → Fld Z h' h.size O nm d (defaultValue ty)) → Wp p e s below Q kc ks (T'.setTop (mkF m pc' Ls (.ref h.size :: st)))) : Wp p e s below Q kc ks (T.setTop (mkF m pc Ls st)) := by
  subst hp
  obtain ⟨T', h', X', e', E, A, D, -, stp⟩ := Jvm.RoadKit.newO X hx hZ hown w wi wz eT (g := mkF m pc Ls st) rfl hd hc hl
  exact Wp.step stp (K T' h' X' e' E A D)
theorem W.initO (X : Stand p l e R s m args below meth c T locs cells slots) (hx : p.tables.exec = Jvm.exec) (hZ : Z.Warmed39 s.vm) {own : String} {idx : Nat} (pc' W : Nat) (hown : s.vm.findClass own = some m.cls) (w1 : (Jvm.Cond.methodLink own idx Lib.objectInit).before a0 Z = true) (w2 : (Jvm.Cond.instanceMethod Lib.objectInit).before a0 Z = true) (w3 : (Jvm.Cond.code Lib.objectInit ⟨#[0xb1]⟩ 1 none).before a0 Z = true) (eT : T.heap = h) (hsz : Ls.size = c.maxLocals) (hd : decode c.code pc = .ok (.invokespecial idx, 3)) (hf : 1 ≤ R.frames) (hW : (st.map fun v => v.category).sum = W) (hl : W + 12 ≤ R.locals) (hp : pc + 3 = pc')
    (K : ∀ T', Stand p l e R s m args below meth c T' locs cells slots → T'.heap = h → Wp p e s below Q kc ks (T'.setTop (mkF m pc' Ls st))) : Wp p e s below Q kc ks (T.setTop (mkF m pc Ls (.ref a :: st))) := by
  subst hp
  obtain ⟨T', X', e', stp⟩ := Jvm.RoadKit.initO X hx hZ hown w1 w2 w3 eT (g := mkF m pc Ls (.ref a :: st)) rfl hsz rfl hd hf (W := W) (by show 2 * 0 + _ ≤ _; omega) hl
  exact Wp.step stp (K T' X' e')
/-! calls -/
theorem W.callS (X : Stand p l e R s m args below meth c T locs cells slots) (hx : p.tables.exec = Jvm.exec) (hZ : Z.Warmed39 s.vm) {own : String} {index : Nat} {y : MethodName} {bytes : ByteArray} {maxL : Nat} {ret : Option FieldType} {rm : Room} {Qc : Option Value → Heap → List Loc → Prop} {ps : List FieldType} {r : Option FieldType} {stk : List Value} (pc' W : Nat) (argsL : List Value)
    (hown : s.vm.findClass own = some m.cls) (w1 : (Jvm.Cond.methodLink own index y).before a0 Z = true) (w2 : (Jvm.Cond.static y).before a0 Z = true) (w3 : (Jvm.Cond.initialized y.cls).before a0 Z = true) (w4 : (Jvm.Cond.code y bytes maxL ret).before a0 Z = true) (hy : y.cls ≠ "java/lang/invoke/MethodHandle" ∧ y.cls ≠ "java/lang/invoke/VarHandle")
    (hpd : parseMethodDescriptor y.desc = some ⟨ps, r⟩) (hlen : argsL.length = ps.length) (eT : T.heap = h) (hM : Con l Z y bytes maxL ret [] rm argsL.toArray h Qc) (hd : decode c.code pc = .ok (.invokestatic index, 3)) (hsz : Ls.size = c.maxLocals) (hstk : stk = argsL.reverse ++ rest) (hW : (rest.map fun v => v.category).sum = W)
    (hf : rm.frames + 1 ≤ R.frames) (hl : W + (maxL + 11) + rm.locals ≤ R.locals) (hc : cells + rm.cells ≤ R.cells) (hsl : slots + rm.slots ≤ R.slots) (hp : pc + 3 = pc')
    (K : ∀ v T' L, Stand p l e R s m args below meth c T' (locs ++ L) (cells + rm.cells) (slots + rm.slots) → Qc v T'.heap L → Wp p e s below Q kc ks (T'.setTop (mkF m pc' Ls (v.toList ++ rest)))) : Wp p e s below Q kc ks (T.setTop (mkF m pc Ls stk)) := by
  subst hp hstk
  obtain ⟨v, vm₁, ⟨T', L', k', n'⟩, -, X', ⟨Lc, hQ, l1, l2, l3⟩, stp⟩ := Jvm.LawKit.callS X hx (y := y) hown (mvT hZ w1) (mvT hZ w2) (mvT hZ w3) (mvT hZ w4) hy (backOf (W := W) hM hZ w4 w3 hf hl) (g := mkF m pc Ls (argsL.reverse ++ rest)) rfl hsz (argsL := argsL) (rest := rest) (lenOf hpd hlen) rfl (by show 2 * 0 + _ ≤ _; omega) hd (fun _ _ => ⟨rfl, eT, hc, hsl⟩)
  dsimp only [Pt.U, Pt.locs, Pt.cells, Pt.slots] at X' l1 l2 l3 stp hQ
  subst l1 l2 l3
  exact Wp.step stp (K v T' Lc X' hQ)
theorem W.callI (X : Stand p l e R s m args below meth c T locs cells slots) (hx : p.tables.exec = Jvm.exec) (hZ : Z.Warmed39 s.vm) {own : String} {index : Nat} {y : MethodName} {bytes : ByteArray} {maxL : Nat} {rm : Room} {Qc : Option Value → Heap → List Loc → Prop} {ps : List FieldType} {r : Option FieldType} {stk : List Value} (pc' W : Nat) (b : Addr) (argsL : List Value) (hy1 : y.name = "<init>")
    (hown : s.vm.findClass own = some m.cls) (w1 : (Jvm.Cond.methodLink own index y).before a0 Z = true) (w2 : (Jvm.Cond.instanceMethod y).before a0 Z = true) (w3 : (Jvm.Cond.initialized y.cls).before a0 Z = true) (w4 : (Jvm.Cond.code y bytes maxL none).before a0 Z = true) (hy : y.cls ≠ "java/lang/invoke/MethodHandle" ∧ y.cls ≠ "java/lang/invoke/VarHandle")
    (hpd : parseMethodDescriptor y.desc = some ⟨ps, r⟩) (hlen : argsL.length = ps.length) (eT : T.heap = h) (hM : Con l Z y bytes maxL none [] rm (.ref b :: argsL).toArray h Qc) (hd : decode c.code pc = .ok (.invokespecial index, 3)) (hsz : Ls.size = c.maxLocals) (hstk : stk = argsL.reverse ++ .ref b :: rest) (hW : (rest.map fun v => v.category).sum = W)
    (hf : rm.frames + 1 ≤ R.frames) (hl : W + (maxL + 11) + rm.locals ≤ R.locals) (hc : cells + rm.cells ≤ R.cells) (hsl : slots + rm.slots ≤ R.slots) (hp : pc + 3 = pc')
    (K : ∀ v T' L, Stand p l e R s m args below meth c T' (locs ++ L) (cells + rm.cells) (slots + rm.slots) → Qc v T'.heap L → Wp p e s below Q kc ks (T'.setTop (mkF m pc' Ls (v.toList ++ rest)))) : Wp p e s below Q kc ks (T.setTop (mkF m pc Ls stk)) := by
  subst hp hstk
  obtain ⟨v, vm₁, ⟨T', L', k', n'⟩, -, X', ⟨Lc, hQ, l1, l2, l3⟩, stp⟩ := X.specialBack hx (y := y) hy1 hown (mvT hZ w1) (mvT hZ w2) (mvT hZ w4) hy (backOf (W := W) hM hZ w4 w3 hf hl) (g := mkF m pc Ls (argsL.reverse ++ .ref b :: rest)) rfl hsz (Steps.refl _) (a := b) (argsL := argsL) (rest := rest) (lenOf hpd hlen) rfl (by show 2 * 0 + _ ≤ _; omega) hd (fun _ _ => ⟨rfl, eT, hc, hsl⟩)
  dsimp only [Pt.U, Pt.locs, Pt.cells, Pt.slots] at X' l1 l2 l3 stp hQ
  subst l1 l2 l3
  exact Wp.chain stp (K v T' Lc X' hQ)
theorem W.callV (X : Stand p l e R s m args below meth c T locs cells slots) (hx : p.tables.exec = Jvm.exec) (hZ : Z.Warmed39 s.vm) {own C : String} {index : Nat} {y : MethodName} {bytes : ByteArray} {maxL : Nat} {ret : Option FieldType} {rm : Room} {Qc : Option Value → Heap → List Loc → Prop} {ps : List FieldType} {r : Option FieldType} {stk : List Value} (pc' W : Nat) (b : Addr) (argsL : List Value)
    (hown : s.vm.findClass own = some m.cls) (w1 : (Jvm.Cond.methodLink own index y).before a0 Z = true) (w2 : (Jvm.Cond.declares y).before a0 Z = true) (w5 : (Jvm.Cond.selects C y y).before a0 Z = true) (w6 : (Jvm.Cond.instanceMethod y).before a0 Z = true) (w3 : (Jvm.Cond.initialized y.cls).before a0 Z = true) (w4 : (Jvm.Cond.code y bytes maxL ret).before a0 Z = true) (hy : y.cls ≠ "java/lang/invoke/MethodHandle" ∧ y.cls ≠ "java/lang/invoke/VarHandle")
    (hpd : parseMethodDescriptor y.desc = some ⟨ps, r⟩) (hlen : argsL.length = ps.length) (eT : T.heap = h) (E : Exa Z h b C) (hM : Con l Z y bytes maxL ret [] rm (.ref b :: argsL).toArray h Qc) (hd : decode c.code pc = .ok (.invokevirtual index, 3)) (hsz : Ls.size = c.maxLocals) (hstk : stk = argsL.reverse ++ .ref b :: rest) (hW : (rest.map fun v => v.category).sum = W)
    (hf : rm.frames + 1 ≤ R.frames) (hl : W + (maxL + 11) + rm.locals ≤ R.locals) (hc : cells + rm.cells ≤ R.cells) (hsl : slots + rm.slots ≤ R.slots) (hp : pc + 3 = pc')
    (K : ∀ v T' L, Stand p l e R s m args below meth c T' (locs ++ L) (cells + rm.cells) (slots + rm.slots) → Qc v T'.heap L → Wp p e s below Q kc ks (T'.setTop (mkF m pc' Ls (v.toList ++ rest)))) : Wp p e s below Q kc ks (T.setTop (mkF m pc Ls stk)) := by
  subst hp hstk
  obtain ⟨cq, kq, qa, qb, qc⟩ := isOf hZ eT E
  obtain ⟨v, vm₁, ⟨T', L', k', n'⟩, -, X', ⟨Lc, hQ, l1, l2, l3⟩, stp⟩ := X.virtualBack hx (y := y) (z := y) hown (mvT hZ w1) (mvT hZ w2) (notFace_of_selects (args := args) (mvT hZ w5)) (mvT hZ w5) (mvT hZ w6) hy (backOf (W := W) hM hZ w4 w3 hf hl) qa qc (g := mkF m pc Ls (argsL.reverse ++ .ref b :: rest)) rfl hsz (Steps.refl _) (argsL := argsL) (rest := rest) (lenOf hpd hlen) rfl (by show 2 * 0 + _ ≤ _; omega) hd (fun _ _ => ⟨rfl, eT, hc, hsl⟩)
  dsimp only [Pt.U, Pt.locs, Pt.cells, Pt.slots] at X' l1 l2 l3 stp hQ
  subst l1 l2 l3
  exact Wp.chain stp (K v T' Lc X' hQ)
theorem ext_refl (h : Heap) : Ext h h := ⟨Nat.le_refl _, fun _ _ q => q⟩
theorem ext_trans {h1 h2 h3 : Heap} (E : Ext h1 h2) (E' : Ext h2 h3) : Ext h1 h3 := ⟨Nat.le_trans E.1 E'.1, fun a c q => E'.2 a c (E.2 a c q)⟩
theorem ext_wr {h0 : Heap} {sl : Nat} {v : Value} (E : Ext h0 h) (W : Wr h h' a sl v) (q : h0.size ≤ a) : Ext h0 h' := by
  refine ⟨by rw [W.size]; exact E.1, fun x cx hx => ?_⟩
  obtain ⟨c', e1, -, -, -, e5, -⟩ := wr_at W (E.2 x cx hx)
  rw [e1, e5 (fun z => by subst z; exact absurd (Array.getElem?_eq_some_iff.mp hx).1 (Nat.not_lt.mpr q))]
theorem ext_keep {h0 : Heap} {ws : List Addr} (E : Ext h0 h) (K : Keep h h' ws) (q : ∀ x ∈ ws, h0.size ≤ x) : Ext h0 h' :=
  ⟨Nat.le_trans E.1 K.1, fun x cx hx => K.2.1 x cx (E.2 x cx hx) fun z => absurd (Array.getElem?_eq_some_iff.mp hx).1 (Nat.not_lt.mpr (q x z))⟩
/-! switches -/
theorem W.lswHit (X : Stand p l e R s m args below meth c T locs cells slots) (hx : p.tables.exec = Jvm.exec) {k : Int32} {dflt : Int} {pairs : Array (Int × Int)} {len : Nat} (pc' : Nat) (y off : Int) (hd : decode c.code pc = .ok (.lookupswitch dflt pairs, len)) (hso : (pairs.toList.zip (pairs.toList.drop 1)).all (fun (a, next) => a.1 < next.1) = true) (hf : pairs.find? (·.1 == k.toInt) = some (y, off)) (ho : 0 ≤ (pc : Int) + off) (hp : ((pc : Int) + off).toNat = pc') (K : Wp p e s below Q kc ks (T.setTop (mkF m pc' Ls st))) : Wp p e s below Q kc ks (T.setTop (mkF m pc Ls (.int k :: st))) := by
  subst hp; exact Wp.step (fun t q => X.lookupswitchHit hx (g := mkF m pc Ls (.int k :: st)) rfl rfl hd hso hf ho t q) K
theorem W.lswMiss (X : Stand p l e R s m args below meth c T locs cells slots) (hx : p.tables.exec = Jvm.exec) {k : Int32} {dflt : Int} {pairs : Array (Int × Int)} {len : Nat} (pc' : Nat) (hd : decode c.code pc = .ok (.lookupswitch dflt pairs, len)) (hso : (pairs.toList.zip (pairs.toList.drop 1)).all (fun (a, next) => a.1 < next.1) = true) (hf : pairs.find? (·.1 == k.toInt) = none) (ho : 0 ≤ (pc : Int) + dflt) (hp : ((pc : Int) + dflt).toNat = pc') (K : Wp p e s below Q kc ks (T.setTop (mkF m pc' Ls st))) : Wp p e s below Q kc ks (T.setTop (mkF m pc Ls (.int k :: st))) := by
  subst hp; exact Wp.step (fun t q => X.lookupswitchMiss hx (g := mkF m pc Ls (.int k :: st)) rfl rfl hd hso hf ho t q) K
theorem W.tswIn (X : Stand p l e R s m args below meth c T locs cells slots) (hx : p.tables.exec = Jvm.exec) {k : Int32} {dflt low high : Int} {offs : Array Int} {len : Nat} (pc' : Nat) (off : Int) (hd : decode c.code pc = .ok (.tableswitch dflt low high offs, len)) (hi : ¬ (k.toInt < low ∨ k.toInt > high)) (hf : offs[(k.toInt - low).toNat]? = some off) (ho : 0 ≤ (pc : Int) + off) (hp : ((pc : Int) + off).toNat = pc') (K : Wp p e s below Q kc ks (T.setTop (mkF m pc' Ls st))) : Wp p e s below Q kc ks (T.setTop (mkF m pc Ls (.int k :: st))) := by
  subst hp; exact Wp.step (fun t q => X.tableswitchIn hx (g := mkF m pc Ls (.int k :: st)) rfl rfl hd hi hf ho t q) K
/-! arrays of references -/
def Takes (Z : State) (h : Heap) (a : Addr) (C : String) : Prop := ∃ (c : Cell) (ty : FieldType), Arr Z h a c ty ∧ Ovr Z c.cls C
theorem Takes.lt {C : String} (F : Takes Z h a C) : a < h.size := by obtain ⟨c, ty, A, -⟩ := F; exact A.lt
theorem Takes.ext {C : String} (F : Takes Z h a C) (E : Ext h h') : Takes Z h' a C := by obtain ⟨c, ty, A, O⟩ := F; exact ⟨c, ty, A.ext E, O⟩
theorem Takes.wr {C : String} {sl : Nat} {v : Value} (F : Takes Z h a C) (W : Wr h h' b sl v) : Takes Z h' a C := by
  obtain ⟨c, ty, A, O⟩ := F
  by_cases q : a = b
  · subst q; exact ⟨_, ty, A.same W, O⟩
  · exact ⟨c, ty, A.other W q, O⟩
theorem Takes.sto {C : String} {y : Addr} (F : Takes Z h a C) (I : Ins Z h y C true) : Sto Z h a (.ref y) := by obtain ⟨c, ty, A, O⟩ := F; exact Sto.of A O I
theorem W.newR (X : Stand p l e R s m args below meth c T locs cells slots) (hx : p.tables.exec = Jvm.exec) (hZ : Z.Warmed39 s.vm) {own C : String} {index : Nat} {z : Int32} (pc' : Nat) (k cap : Nat) (hown : s.vm.findClass own = some m.cls) (w1 : (Jvm.Cond.classLink own index C).before a0 Z = true) (w2 : (Jvm.Cond.arrayOver (.object C)).before a0 Z = true) (eT : T.heap = h) (hd : decode c.code pc = .ok (.anewarray index, 3)) (hz : z.toInt = (k : Int)) (hcap : k ≤ cap) (hb : cap * 8 ≤ 536870912) (hc : cells + 1 ≤ R.cells) (hl : slots + cap ≤ R.slots) (hp : pc + 3 = pc')
    (K : ∀ T' h', Stand p l e R s m args below meth c T' locs (cells + 1) (slots + cap) → T'.heap = h' → Ext h h' → IArr Z h' h.size (.object C) k (fun _ => defaultValue (.object C)) → Takes Z h' h.size C → Wp p e s below Q kc ks (T'.setTop (mkF m pc' Ls (.ref h.size :: st)))) : Wp p e s below Q kc ks (T.setTop (mkF m pc Ls (.int z :: st))) := by
  subst hp
  obtain ⟨q1, q2⟩ := nat_of hz
  obtain ⟨T', h', cA, X', e', E, A, O, stp⟩ := Jvm.RoadKit.newR X hx hZ hown w1 w2 eT (g := mkF m pc Ls (.int z :: st)) rfl hd rfl q1 (cap := cap) (by omega) hb hc hl
  exact Wp.step stp (K T' h' X' e' E (IArr.fresh A q2) ⟨_, _, A, O⟩)
theorem W.aastore (X : Stand p l e R s m args below meth c T locs cells slots) (hx : p.tables.exec = Jvm.exec) (hZ : Z.Warmed39 s.vm) {j : Int32} {v : Value} (pc' : Nat) (i : Nat) (eT : T.heap = h) (A : IArr Z h a ty n f) (hty : ty.isReference = true) (F : Sto Z h a v) (hj : j.toInt = (i : Int)) (hi : i < n) (hd : decode c.code pc = .ok (.aastore, 1)) (hp : pc + 1 = pc')
    (K : ∀ T' h', Stand p l e R s m args below meth c T' (locs ++ [⟨a, i⟩]) cells slots → T'.heap = h' → Wr h h' a i v → IArr Z h' a ty n (upd f i v) → Wp p e s below Q kc ks (T'.setTop (mkF m pc' Ls st))) : Wp p e s below Q kc ks (T.setTop (mkF m pc Ls (v :: .int j :: .ref a :: st))) := by
  subst hp
  obtain ⟨cl, A0, S, H⟩ := A
  obtain ⟨T', h', X', e', W, stp⟩ := stR X hx hZ eT A0 (IArr.inb S hj hi) hty F (g := mkF m pc Ls (v :: .int j :: .ref a :: st)) rfl rfl hd
  rw [(nat_of hj).2] at X' W
  exact Wp.step stp (K T' h' X' e' W (IArr.same ⟨cl, A0, S, H⟩ W))
/-! a virtual call whose method is declared in a superclass -/
theorem W.callU (X : Stand p l e R s m args below meth c T locs cells slots) (hx : p.tables.exec = Jvm.exec) (hZ : Z.Warmed39 s.vm) {own C owner : String} {index : Nat} {y z : MethodName} {bytes : ByteArray} {maxL : Nat} {ret : Option FieldType} {rm : Room} {Qc : Option Value → Heap → List Loc → Prop} {ps : List FieldType} {r : Option FieldType} {stk : List Value} (pc' W : Nat) (b : Addr) (argsL : List Value)
    (hown : s.vm.findClass own = some m.cls) (w1 : (Jvm.Cond.methodLink own index y).before a0 Z = true) (w7 : (Jvm.Cond.sameMethod y.cls owner y.name y.desc).before a0 Z = true) (w2 : (Jvm.Cond.declares ⟨owner, y.name, y.desc⟩).before a0 Z = true) (hy : owner ≠ "java/lang/invoke/MethodHandle" ∧ owner ≠ "java/lang/invoke/VarHandle") (w5 : (Jvm.Cond.selects C y z).before a0 Z = true) (w6 : (Jvm.Cond.instanceMethod z).before a0 Z = true) (w3 : (Jvm.Cond.initialized z.cls).before a0 Z = true) (w4 : (Jvm.Cond.code z bytes maxL ret).before a0 Z = true)
    (hpd : parseMethodDescriptor y.desc = some ⟨ps, r⟩) (hlen : argsL.length = ps.length) (eT : T.heap = h) (E : Exa Z h b C) (hM : Con l Z z bytes maxL ret [] rm (.ref b :: argsL).toArray h Qc) (hd : decode c.code pc = .ok (.invokevirtual index, 3)) (hsz : Ls.size = c.maxLocals) (hstk : stk = argsL.reverse ++ .ref b :: rest) (hW : (rest.map fun v => v.category).sum = W)
    (hf : rm.frames + 1 ≤ R.frames) (hl : W + (maxL + 11) + rm.locals ≤ R.locals) (hc : cells + rm.cells ≤ R.cells) (hsl : slots + rm.slots ≤ R.slots) (hp : pc + 3 = pc')
    (K : ∀ v T' L, Stand p l e R s m args below meth c T' (locs ++ L) (cells + rm.cells) (slots + rm.slots) → Qc v T'.heap L → Wp p e s below Q kc ks (T'.setTop (mkF m pc' Ls (v.toList ++ rest)))) : Wp p e s below Q kc ks (T.setTop (mkF m pc Ls stk)) := by
  subst hp hstk
  obtain ⟨cq, kq, qa, qb, qc⟩ := isOf hZ eT E
  obtain ⟨v, vm₁, ⟨T', L', k', n'⟩, -, X', ⟨Lc, hQ, l1, l2, l3⟩, stp⟩ := X.virtualBackUp hx (x := y) (y := z) (owner := owner) hown (mvT hZ w1) (mvT hZ w7) (mvT hZ w2) hy (mvT hZ w5) (mvT hZ w6) (backOf (W := W) hM hZ w4 w3 hf hl) qa qc (g := mkF m pc Ls (argsL.reverse ++ .ref b :: rest)) rfl hsz (Steps.refl _) (argsL := argsL) (rest := rest) (lenOf hpd hlen) rfl (by show 2 * 0 + _ ≤ _; omega) hd (fun _ _ => ⟨rfl, eT, hc, hsl⟩)
  dsimp only [Pt.U, Pt.locs, Pt.cells, Pt.slots] at X' l1 l2 l3 stp hQ
  subst l1 l2 l3
  exact Wp.chain stp (K v T' Lc X' hQ)
/-! a private instance method -/
theorem W.callP (X : Stand p l e R s m args below meth c T locs cells slots) (hx : p.tables.exec = Jvm.exec) (hZ : Z.Warmed39 s.vm) {own : String} {index : Nat} {y : MethodName} {bytes : ByteArray} {maxL kk : Nat} {ret : Option FieldType} {rm : Room} {Qc : Option Value → Heap → List Loc → Prop} {ps : List FieldType} {r : Option FieldType} {stk : List Value} (pc' W : Nat) (b : Addr) (argsL : List Value)
    (hown : s.vm.findClass own = some m.cls) (w1 : (Jvm.Cond.methodLink own index y).before a0 Z = true) (w2 : (Jvm.Cond.instanceMethod y).before a0 Z = true) (w5 : (Jvm.Cond.privateMethod y).before a0 Z = true) (w6 : (Jvm.Cond.instantiable y.cls kk).before a0 Z = true) (w3 : (Jvm.Cond.initialized y.cls).before a0 Z = true) (w4 : (Jvm.Cond.code y bytes maxL ret).before a0 Z = true) (hy : y.cls ≠ "java/lang/invoke/MethodHandle" ∧ y.cls ≠ "java/lang/invoke/VarHandle")
    (hpd : parseMethodDescriptor y.desc = some ⟨ps, r⟩) (hlen : argsL.length = ps.length) (eT : T.heap = h) {C : String} (E : Exa Z h b C) (hM : Con l Z y bytes maxL ret [] rm (.ref b :: argsL).toArray h Qc) (hd : decode c.code pc = .ok (.invokevirtual index, 3)) (hsz : Ls.size = c.maxLocals) (hstk : stk = argsL.reverse ++ .ref b :: rest) (hW : (rest.map fun v => v.category).sum = W)
    (hf : rm.frames + 1 ≤ R.frames) (hl : W + (maxL + 11) + rm.locals ≤ R.locals) (hc : cells + rm.cells ≤ R.cells) (hsl : slots + rm.slots ≤ R.slots) (hp : pc + 3 = pc')
    (K : ∀ v T' L, Stand p l e R s m args below meth c T' (locs ++ L) (cells + rm.cells) (slots + rm.slots) → Qc v T'.heap L → Wp p e s below Q kc ks (T'.setTop (mkF m pc' Ls (v.toList ++ rest)))) : Wp p e s below Q kc ks (T.setTop (mkF m pc Ls stk)) := by
  subst hp hstk
  obtain ⟨cq, q, q'⟩ := E.cell
  have hpr := Cond.privateMethod_at (mvP hZ w5 (args := args))
  obtain ⟨c2, k2, i1, i2, i3, i4, -⟩ := Cond.instantiable_spec (mvT (args := args) hZ w6)
  have hsel := selects_self_of_private i1 i2 (Bool.or_eq_false_iff.mp i4).1 hpr (mvT (args := args) hZ w2) hy
  obtain ⟨v, vm₁, ⟨T', L', k', n'⟩, -, X', ⟨Lc, hQ, l1, l2, l3⟩, stp⟩ := X.privateBack hx (y := y) hown (mvT hZ w1) (mvT hZ w2) hsel hpr (mvT hZ w4) hy (backOf (W := W) hM hZ w4 w3 hf hl) (g := mkF m pc Ls (argsL.reverse ++ .ref b :: rest)) rfl hsz (Steps.refl _) (a := b) (by rw [eT]; exact q) q' (argsL := argsL) (rest := rest) (lenOf hpd hlen) rfl (by show 2 * 0 + _ ≤ _; omega) hd (fun _ _ => ⟨rfl, eT, hc, hsl⟩)
  dsimp only [Pt.U, Pt.locs, Pt.cells, Pt.slots] at X' l1 l2 l3 stp hQ
  subst l1 l2 l3
  exact Wp.chain stp (K v T' Lc X' hQ)
end W
end Jvm.OwnW
namespace Jvm.Pilot.@@N@@
open Jvm Jvm.ClassFile Sem Op Lib Jvm.Free Jvm.Stand Jvm.LawKit Jvm.RoadKit Jvm.OwnW Bundle Jvm.Pilot.@@N@@.Jvm.D
theorem pd_0 : parseMethodDescriptor "(ZZ)Lcom/example/wirecall/wirecall/MethodDescriptor$Shape;" = some ⟨[.boolean, .boolean], some (.object "com/example/wirecall/wirecall/MethodDescriptor$Shape")⟩ := by decide +kernel
theorem pd_1 : parseMethodDescriptor "()Z" = some ⟨[], some .boolean⟩ := by decide +kernel
theorem own_fld {args : Array Value} {s : State} {t : Term} {C n d : String} {k : Int32} {u : Addr} (ht : t.eval args s none [] s = some (.ref u)) (h : (Jvm.Cond.eq (.field t C n d) (.int k)).value args s none s [] = some true) : Fld s s.heap u C n d (.int k) := by
  obtain ⟨x, y, hx, hy, k1, k2⟩ := cmp_v (Or.inl h)
  obtain rfl : y = .int k := by simpa [Term.eval] using hy.symm
  obtain ⟨z, rfl⟩ : ∃ z, x = .int z := k2
  have q : z = k := gotT (Cond.eq_ints hx hy) h
  subst q
  exact Fld.start (by rw [← fld_at ht]; exact hx)
theorem d1_0 : decode prog_35_method_4_code 0 = .ok (.iload_n 0, 1) := by decide +kernel
theorem d1_1 : decode prog_35_method_4_code 1 = .ok (.ifCond .eq 17, 3) := by decide +kernel
theorem d1_4 : decode prog_35_method_4_code 4 = .ok (.iload_n 1, 1) := by decide +kernel
theorem d1_5 : decode prog_35_method_4_code 5 = .ok (.ifCond .eq 9, 3) := by decide +kernel
theorem d1_8 : decode prog_35_method_4_code 8 = .ok (.getstatic 13, 3) := by decide +kernel
theorem d1_11 : decode prog_35_method_4_code 11 = .ok (.goto 6, 3) := by decide +kernel
theorem d1_14 : decode prog_35_method_4_code 14 = .ok (.getstatic 10, 3) := by decide +kernel
theorem d1_17 : decode prog_35_method_4_code 17 = .ok (.areturn, 1) := by decide +kernel
theorem d1_18 : decode prog_35_method_4_code 18 = .ok (.iload_n 1, 1) := by decide +kernel
theorem d1_19 : decode prog_35_method_4_code 19 = .ok (.ifCond .eq 9, 3) := by decide +kernel
theorem d1_22 : decode prog_35_method_4_code 22 = .ok (.getstatic 7, 3) := by decide +kernel
theorem d1_25 : decode prog_35_method_4_code 25 = .ok (.goto 6, 3) := by decide +kernel
theorem d1_28 : decode prog_35_method_4_code 28 = .ok (.getstatic 3, 3) := by decide +kernel
theorem d1_31 : decode prog_35_method_4_code 31 = .ok (.areturn, 1) := by decide +kernel
theorem pn_1 : plainName "com/example/wirecall/wirecall/MethodDescriptor$Shape" = true := by first | (simp [plainName, overriddenIn]; done) | decide +kernel
theorem ef_rm1 (m : MethodId) (p1 : Int32) (p2 : Int32) : entryFrame m #[(.int p1), (.int p2)] 2 = mkF m 0 #[.val (.int p1), .val (.int p2)] [] := by first | (simp [entryFrame, mkF, argsToLocals, Value.category]; done) | rfl
set_option maxRecDepth 65536 in
set_option maxHeartbeats 40000000 in
theorem rm1 (l : Launch) (Z : State) (a0 : Array Value) (hw : ∀ d ∈ tables_1, d.before a0 Z = true) (p1 p2 : Int32) (u cl bi sv r : Addr) (h0 : Heap) (SU : Sta Z h0 "com/example/wirecall/wirecall/MethodDescriptor$Shape" "UNARY" "Lcom/example/wirecall/wirecall/MethodDescriptor$Shape;" (.ref u)) (SC : Sta Z h0 "com/example/wirecall/wirecall/MethodDescriptor$Shape" "CLIENT_STREAMING" "Lcom/example/wirecall/wirecall/MethodDescriptor$Shape;" (.ref cl)) (SB : Sta Z h0 "com/example/wirecall/wirecall/MethodDescriptor$Shape" "BIDIRECTIONAL" "Lcom/example/wirecall/wirecall/MethodDescriptor$Shape;" (.ref bi)) (SS : Sta Z h0 "com/example/wirecall/wirecall/MethodDescriptor$Shape" "SERVER_STREAMING" "Lcom/example/wirecall/wirecall/MethodDescriptor$Shape;" (.ref sv)) (hr : r = if p1 = 0 then (if p2 = 0 then u else sv) else (if p2 = 0 then cl else bi)) :
    Con l Z (⟨"com/example/wirecall/wirecall/MethodDescriptor$Shape", "of", "(ZZ)Lcom/example/wirecall/wirecall/MethodDescriptor$Shape;"⟩ : MethodName) prog_35_method_4_code 2 (some (.object "com/example/wirecall/wirecall/MethodDescriptor$Shape")) [] ({ frames := 0, cells := 0, slots := 0, locals := 0 } : Room) #[(.int p1), (.int p2)] h0 (fun v h L => v = some (.ref r) ∧ h = h0 ∧ L = []) := by
  refine Con.of (plainFor_of_name pn_1) ?_
  intro p e s m below meth c s₁ hx hby hml hown hnm hret hlk hZ X0 e0
  refine Wp.enter (ef_rm1 m p1 p2) ?_
  refine W.iloadN X0 hx 1 (hb hby d1_0) rfl rfl ?_
  refine W.ifEq X0 hx 18 4 (hb hby d1_1) (by decide) (by decide) rfl (fun q1 => ?_) (fun q1 => ?_)
  · skip
    refine W.iloadN X0 hx 19 (hb hby d1_18) rfl rfl ?_
    refine W.ifEq X0 hx 28 22 (hb hby d1_19) (by decide) (by decide) rfl (fun q2 => ?_) (fun q2 => ?_)
    · skip
      refine W.getS X0 hx hZ 31 hown (hw _ (List.mem_of_getElem? (i := 4) rfl)) Via.refl e0 SU (hb hby d1_28) rfl ?_
      intro T1 X1 e1
      subst hr
      refine W.aret X1 hx hlk hret rfl rfl (hb hby d1_31) (by decide) (by decide) ?_
      exact ⟨by simp [q1, q2], e1, rfl⟩
    · skip
      refine W.getS X0 hx hZ 25 hown (hw _ (List.mem_of_getElem? (i := 20) rfl)) Via.refl e0 SS (hb hby d1_22) rfl ?_
      intro T2 X2 e2
      refine W.goto X2 hx 31 (hb hby d1_25) (by decide) (by decide) ?_
      subst hr
      refine W.aret X2 hx hlk hret rfl rfl (hb hby d1_31) (by decide) (by decide) ?_
      exact ⟨by simp [q1, q2], e2, rfl⟩
  · skip
    refine W.iloadN X0 hx 5 (hb hby d1_4) rfl rfl ?_
    refine W.ifEq X0 hx 14 8 (hb hby d1_5) (by decide) (by decide) rfl (fun q2 => ?_) (fun q2 => ?_)
    · skip
      refine W.getS X0 hx hZ 17 hown (hw _ (List.mem_of_getElem? (i := 11) rfl)) Via.refl e0 SC (hb hby d1_14) rfl ?_
      intro T3 X3 e3
      subst hr
      refine W.aret X3 hx hlk hret rfl rfl (hb hby d1_17) (by decide) (by decide) ?_
      exact ⟨by simp [q1, q2], e3, rfl⟩
    · skip
      refine W.getS X0 hx hZ 11 hown (hw _ (List.mem_of_getElem? (i := 13) rfl)) Via.refl e0 SB (hb hby d1_8) rfl ?_
      intro T4 X4 e4
      refine W.goto X4 hx 17 (hb hby d1_11) (by decide) (by decide) ?_
      subst hr
      refine W.aret X4 hx hlk hret rfl rfl (hb hby d1_17) (by decide) (by decide) ?_
      exact ⟨by simp [q1, q2], e4, rfl⟩
theorem d2_0 : decode prog_35_method_5_code 0 = .ok (.aload_n 0, 1) := by decide +kernel
theorem d2_1 : decode prog_35_method_5_code 1 = .ok (.getstatic 10, 3) := by decide +kernel
theorem d2_4 : decode prog_35_method_5_code 4 = .ok (.if_acmp .eq 10, 3) := by decide +kernel
theorem d2_7 : decode prog_35_method_5_code 7 = .ok (.aload_n 0, 1) := by decide +kernel
theorem d2_8 : decode prog_35_method_5_code 8 = .ok (.getstatic 13, 3) := by decide +kernel
theorem d2_11 : decode prog_35_method_5_code 11 = .ok (.if_acmp .ne 7, 3) := by decide +kernel
theorem d2_14 : decode prog_35_method_5_code 14 = .ok (.iconst 1, 1) := by decide +kernel
theorem d2_15 : decode prog_35_method_5_code 15 = .ok (.goto 4, 3) := by decide +kernel
theorem d2_18 : decode prog_35_method_5_code 18 = .ok (.iconst 0, 1) := by decide +kernel
theorem d2_19 : decode prog_35_method_5_code 19 = .ok (.ireturn, 1) := by decide +kernel
theorem pn_2 : plainName "com/example/wirecall/wirecall/MethodDescriptor$Shape" = true := by first | (simp [plainName, overriddenIn]; done) | decide +kernel
theorem ef_rm2 (m : MethodId) (r : Addr) : entryFrame m #[(.ref r)] 1 = mkF m 0 #[.val (.ref r)] [] := by first | (simp [entryFrame, mkF, argsToLocals, Value.category]; done) | rfl
set_option maxRecDepth 65536 in
set_option maxHeartbeats 40000000 in
theorem rm2 (l : Launch) (Z : State) (a0 : Array Value) (hw : ∀ d ∈ tables_1, d.before a0 Z = true) (r u cl bi sv : Addr) (z : Int32) (h0 : Heap) (SU : Sta Z h0 "com/example/wirecall/wirecall/MethodDescriptor$Shape" "UNARY" "Lcom/example/wirecall/wirecall/MethodDescriptor$Shape;" (.ref u)) (SC : Sta Z h0 "com/example/wirecall/wirecall/MethodDescriptor$Shape" "CLIENT_STREAMING" "Lcom/example/wirecall/wirecall/MethodDescriptor$Shape;" (.ref cl)) (SB : Sta Z h0 "com/example/wirecall/wirecall/MethodDescriptor$Shape" "BIDIRECTIONAL" "Lcom/example/wirecall/wirecall/MethodDescriptor$Shape;" (.ref bi)) (SS : Sta Z h0 "com/example/wirecall/wirecall/MethodDescriptor$Shape" "SERVER_STREAMING" "Lcom/example/wirecall/wirecall/MethodDescriptor$Shape;" (.ref sv)) (hz : z = if r = cl then 1 else if r = bi then 1 else 0) :
    Con l Z (⟨"com/example/wirecall/wirecall/MethodDescriptor$Shape", "isClientStreaming", "()Z"⟩ : MethodName) prog_35_method_5_code 1 (some .boolean) [] ({ frames := 0, cells := 0, slots := 0, locals := 0 } : Room) #[(.ref r)] h0 (fun v h L => v = some (.int z) ∧ h = h0 ∧ L = []) := by
  refine Con.of (plainFor_of_name pn_2) ?_
  intro p e s m below meth c s₁ hx hby hml hown hnm hret hlk hZ X0 e0
  refine Wp.enter (ef_rm2 m r) ?_
  refine W.aloadN X0 hx 1 (hb hby d2_0) rfl rfl rfl ?_
  refine W.getS X0 hx hZ 4 hown (hw _ (List.mem_of_getElem? (i := 11) rfl)) Via.refl e0 SC (hb hby d2_1) rfl ?_
  intro T1 X1 e1
  refine W.acmpE X1 hx 14 7 rfl rfl (hb hby d2_4) (by decide) (by decide) rfl (fun q1 => ?_) (fun q1 => ?_)
  · skip
    refine W.iconst X1 hx 15 (1 : Int32) (hb hby d2_14) rfl rfl ?_
    refine W.goto X1 hx 19 (hb hby d2_15) (by decide) (by decide) ?_
    subst hz
    refine W.nret X1 hx hlk (t := .boolean) hret (by simp) (hb hby d2_19) (by decide) (by decide) ?_
    exact ⟨by have q' := Value.ref.inj q1; simp [q', nar], e1, rfl⟩
  · skip
    refine W.aloadN X1 hx 8 (hb hby d2_7) rfl rfl rfl ?_
    refine W.getS X1 hx hZ 11 hown (hw _ (List.mem_of_getElem? (i := 13) rfl)) Via.refl e1 SB (hb hby d2_8) rfl ?_
    intro T2 X2 e2
    refine W.acmpN X2 hx 18 14 rfl rfl (hb hby d2_11) (by decide) (by decide) rfl (fun q2 => ?_) (fun q2 => ?_)
    · skip
      refine W.iconst X2 hx 19 (0 : Int32) (hb hby d2_18) rfl rfl ?_
      subst hz
      refine W.nret X2 hx hlk (t := .boolean) hret (by simp) (hb hby d2_19) (by decide) (by decide) ?_
      exact ⟨by have q' : ¬ r = cl := fun q => q1 (by rw [q]); have q'' : ¬ r = bi := fun q => q2 (by rw [q]); simp [q', q'', nar], e2, rfl⟩
    · skip
      refine W.iconst X2 hx 15 (1 : Int32) (hb hby d2_14) rfl rfl ?_
      refine W.goto X2 hx 19 (hb hby d2_15) (by decide) (by decide) ?_
      subst hz
      refine W.nret X2 hx hlk (t := .boolean) hret (by simp) (hb hby d2_19) (by decide) (by decide) ?_
      exact ⟨by have q' : ¬ r = cl := fun q => q1 (by rw [q]); have q'' := Value.ref.inj q2; simp [q'', nar], e2, rfl⟩
theorem d3_0 : decode prog_35_method_6_code 0 = .ok (.aload_n 0, 1) := by decide +kernel
theorem d3_1 : decode prog_35_method_6_code 1 = .ok (.getstatic 7, 3) := by decide +kernel
theorem d3_4 : decode prog_35_method_6_code 4 = .ok (.if_acmp .eq 10, 3) := by decide +kernel
theorem d3_7 : decode prog_35_method_6_code 7 = .ok (.aload_n 0, 1) := by decide +kernel
theorem d3_8 : decode prog_35_method_6_code 8 = .ok (.getstatic 13, 3) := by decide +kernel
theorem d3_11 : decode prog_35_method_6_code 11 = .ok (.if_acmp .ne 7, 3) := by decide +kernel
theorem d3_14 : decode prog_35_method_6_code 14 = .ok (.iconst 1, 1) := by decide +kernel
theorem d3_15 : decode prog_35_method_6_code 15 = .ok (.goto 4, 3) := by decide +kernel
theorem d3_18 : decode prog_35_method_6_code 18 = .ok (.iconst 0, 1) := by decide +kernel
theorem d3_19 : decode prog_35_method_6_code 19 = .ok (.ireturn, 1) := by decide +kernel
theorem pn_3 : plainName "com/example/wirecall/wirecall/MethodDescriptor$Shape" = true := by first | (simp [plainName, overriddenIn]; done) | decide +kernel
theorem ef_rm3 (m : MethodId) (r : Addr) : entryFrame m #[(.ref r)] 1 = mkF m 0 #[.val (.ref r)] [] := by first | (simp [entryFrame, mkF, argsToLocals, Value.category]; done) | rfl
set_option maxRecDepth 65536 in
set_option maxHeartbeats 40000000 in
theorem rm3 (l : Launch) (Z : State) (a0 : Array Value) (hw : ∀ d ∈ tables_1, d.before a0 Z = true) (r u cl bi sv : Addr) (z : Int32) (h0 : Heap) (SU : Sta Z h0 "com/example/wirecall/wirecall/MethodDescriptor$Shape" "UNARY" "Lcom/example/wirecall/wirecall/MethodDescriptor$Shape;" (.ref u)) (SC : Sta Z h0 "com/example/wirecall/wirecall/MethodDescriptor$Shape" "CLIENT_STREAMING" "Lcom/example/wirecall/wirecall/MethodDescriptor$Shape;" (.ref cl)) (SB : Sta Z h0 "com/example/wirecall/wirecall/MethodDescriptor$Shape" "BIDIRECTIONAL" "Lcom/example/wirecall/wirecall/MethodDescriptor$Shape;" (.ref bi)) (SS : Sta Z h0 "com/example/wirecall/wirecall/MethodDescriptor$Shape" "SERVER_STREAMING" "Lcom/example/wirecall/wirecall/MethodDescriptor$Shape;" (.ref sv)) (hz : z = if r = sv then 1 else if r = bi then 1 else 0) :
    Con l Z (⟨"com/example/wirecall/wirecall/MethodDescriptor$Shape", "isServerStreaming", "()Z"⟩ : MethodName) prog_35_method_6_code 1 (some .boolean) [] ({ frames := 0, cells := 0, slots := 0, locals := 0 } : Room) #[(.ref r)] h0 (fun v h L => v = some (.int z) ∧ h = h0 ∧ L = []) := by
  refine Con.of (plainFor_of_name pn_3) ?_
  intro p e s m below meth c s₁ hx hby hml hown hnm hret hlk hZ X0 e0
  refine Wp.enter (ef_rm3 m r) ?_
  refine W.aloadN X0 hx 1 (hb hby d3_0) rfl rfl rfl ?_
  refine W.getS X0 hx hZ 4 hown (hw _ (List.mem_of_getElem? (i := 20) rfl)) Via.refl e0 SS (hb hby d3_1) rfl ?_
  intro T1 X1 e1
  refine W.acmpE X1 hx 14 7 rfl rfl (hb hby d3_4) (by decide) (by decide) rfl (fun q1 => ?_) (fun q1 => ?_)
  · skip
    refine W.iconst X1 hx 15 (1 : Int32) (hb hby d3_14) rfl rfl ?_
    refine W.goto X1 hx 19 (hb hby d3_15) (by decide) (by decide) ?_
    subst hz
    refine W.nret X1 hx hlk (t := .boolean) hret (by simp) (hb hby d3_19) (by decide) (by decide) ?_
    exact ⟨by have q' := Value.ref.inj q1; simp [q', nar], e1, rfl⟩
  · skip
    refine W.aloadN X1 hx 8 (hb hby d3_7) rfl rfl rfl ?_
    refine W.getS X1 hx hZ 11 hown (hw _ (List.mem_of_getElem? (i := 13) rfl)) Via.refl e1 SB (hb hby d3_8) rfl ?_
    intro T2 X2 e2
    refine W.acmpN X2 hx 18 14 rfl rfl (hb hby d3_11) (by decide) (by decide) rfl (fun q2 => ?_) (fun q2 => ?_)
    · skip
      refine W.iconst X2 hx 19 (0 : Int32) (hb hby d3_18) rfl rfl ?_
      subst hz
      refine W.nret X2 hx hlk (t := .boolean) hret (by simp) (hb hby d3_19) (by decide) (by decide) ?_
      exact ⟨by have q' : ¬ r = sv := fun q => q1 (by rw [q]); have q'' : ¬ r = bi := fun q => q2 (by rw [q]); simp [q', q'', nar], e2, rfl⟩
    · skip
      refine W.iconst X2 hx 15 (1 : Int32) (hb hby d3_14) rfl rfl ?_
      refine W.goto X2 hx 19 (hb hby d3_15) (by decide) (by decide) ?_
      subst hz
      refine W.nret X2 hx hlk (t := .boolean) hret (by simp) (hb hby d3_19) (by decide) (by decide) ?_
      exact ⟨by have q' : ¬ r = sv := fun q => q1 (by rw [q]); have q'' := Value.ref.inj q2; simp [q'', nar], e2, rfl⟩
theorem pn_0 : plainName "com/example/wirecall/wirecall/ShapeOfPinLaw" = true := by first | (simp [plainName, overriddenIn]; done) | decide +kernel
theorem ef_rm0 (m : MethodId) (p1 : Int32) : entryFrame m #[(.int p1)] maxLocals = mkF m 0 #[.val (.int p1), .unset, .unset, .unset] [] := by first | (simp [entryFrame, mkF, argsToLocals, Value.category, maxLocals]; done) | rfl
set_option maxRecDepth 65536 in
set_option maxHeartbeats 40000000 in
theorem rm0 (l : Launch) (Z : State) (a0 : Array Value) (hw : ∀ d ∈ tables_1, d.before a0 Z = true) (ws : List Jvm.Cond) (p1 : Int32) (u cl bi sv : Addr) (h0 : Heap) (n0 : Nat) (Z0 : n0 ≤ h0.size) (SU : Sta Z h0 "com/example/wirecall/wirecall/MethodDescriptor$Shape" "UNARY" "Lcom/example/wirecall/wirecall/MethodDescriptor$Shape;" (.ref u)) (SC : Sta Z h0 "com/example/wirecall/wirecall/MethodDescriptor$Shape" "CLIENT_STREAMING" "Lcom/example/wirecall/wirecall/MethodDescriptor$Shape;" (.ref cl)) (SB : Sta Z h0 "com/example/wirecall/wirecall/MethodDescriptor$Shape" "BIDIRECTIONAL" "Lcom/example/wirecall/wirecall/MethodDescriptor$Shape;" (.ref bi)) (SS : Sta Z h0 "com/example/wirecall/wirecall/MethodDescriptor$Shape" "SERVER_STREAMING" "Lcom/example/wirecall/wirecall/MethodDescriptor$Shape;" (.ref sv)) (EU : Exa Z h0 u "com/example/wirecall/wirecall/MethodDescriptor$Shape") (EC : Exa Z h0 cl "com/example/wirecall/wirecall/MethodDescriptor$Shape") (EB : Exa Z h0 bi "com/example/wirecall/wirecall/MethodDescriptor$Shape") (ES : Exa Z h0 sv "com/example/wirecall/wirecall/MethodDescriptor$Shape") (n1 : u ≠ cl) (n2 : u ≠ bi) (n3 : u ≠ sv) (n4 : cl ≠ bi) (n5 : cl ≠ sv) (n6 : bi ≠ sv) :
    Con l Z x code maxLocals ret ws room_1 #[(.int p1)] h0 (fun v h L => v = some (.int 1) ∧ Fr n0 L) := by
  refine Con.of (plainFor_of_name pn_0) ?_
  intro p e s m below meth c s₁ hx hby hml hown hnm hret hlk hZ X0 e0
  refine Wp.enter (ef_rm0 m p1) ?_
  refine W.iloadN X0 hx 1 (hb hby at_0) rfl rfl ?_
  refine W.iconst X0 hx 2 (1 : Int32) (hb hby at_1) rfl rfl ?_
  refine W.iand X0 hx 3 (hb hby at_2) rfl ?_
  refine W.ifEq X0 hx 10 6 (hb hby at_3) (by decide) (by decide) rfl (fun q1 => ?_) (fun q1 => ?_)
  · skip
    refine W.iconst X0 hx 11 (0 : Int32) (hb hby at_10) rfl rfl ?_
    refine W.istoreN X0 hx 12 #[.val (.int p1), .val (.int (0 : Int32)), .unset, .unset] (hb hby at_11) rfl rfl ?_
    refine W.iloadN X0 hx 13 (hb hby at_12) rfl rfl ?_
    refine W.iconst X0 hx 14 (2 : Int32) (hb hby at_13) rfl rfl ?_
    refine W.iand X0 hx 15 (hb hby at_14) rfl ?_
    refine W.ifEq X0 hx 22 18 (hb hby at_15) (by decide) (by decide) rfl (fun q2 => ?_) (fun q2 => ?_)
    · skip
      refine W.iconst X0 hx 23 (0 : Int32) (hb hby at_22) rfl rfl ?_
      refine W.istoreN X0 hx 24 #[.val (.int p1), .val (.int (0 : Int32)), .val (.int (0 : Int32)), .unset] (hb hby at_23) rfl rfl ?_
      refine W.iloadN X0 hx 25 (hb hby at_24) rfl rfl ?_
      refine W.iloadN X0 hx 26 (hb hby at_25) rfl rfl ?_
      refine W.callS X0 hx hZ 29 0 [(.int (0 : Int32)), (.int (0 : Int32))] hown (hw _ (List.mem_of_getElem? (i := 0) rfl)) (hw _ (List.mem_of_getElem? (i := 1) rfl)) (hw _ (List.mem_of_getElem? (i := 2) rfl)) (hw _ (List.mem_of_getElem? (i := 3) rfl)) (by decide) pd_0 rfl e0 (rm1 l Z a0 hw (0 : Int32) (0 : Int32) u cl bi sv u h0 SU SC SB SS (by simp)) (hb hby at_26) (by rw [hml]; rfl) rfl rfl (by decide) (by decide) (by decide) (by decide) rfl ?_
      rintro v1 T1 L1 X1 ⟨rfl, e1, rfl⟩
      refine W.astoreN X1 hx 30 #[.val (.int p1), .val (.int (0 : Int32)), .val (.int (0 : Int32)), .val (.ref u)] (hb hby at_29) rfl rfl rfl ?_
      refine W.aloadN X1 hx 31 (hb hby at_30) rfl rfl rfl ?_
      refine W.nonnullR X1 hx 36 (hb hby at_31) (by decide) (by decide) ?_
      refine W.aloadN X1 hx 37 (hb hby at_36) rfl rfl rfl ?_
      refine W.callV X1 hx hZ 40 0 u [] hown (hw _ (List.mem_of_getElem? (i := 6) rfl)) (hw _ (List.mem_of_getElem? (i := 7) rfl)) (hw _ (List.mem_of_getElem? (i := 9) rfl)) (hw _ (List.mem_of_getElem? (i := 8) rfl)) (hw _ (List.mem_of_getElem? (i := 2) rfl)) (hw _ (List.mem_of_getElem? (i := 10) rfl)) (by decide) pd_1 rfl e1 EU (rm2 l Z a0 hw u u cl bi sv (0 : Int32) h0 SU SC SB SS (by simp [n1, n2, n3, n4, n5, n6, n1.symm, n2.symm, n3.symm, n4.symm, n5.symm, n6.symm])) (hb hby at_37) (by rw [hml]; rfl) rfl rfl (by decide) (by decide) (by decide) (by decide) rfl ?_
      rintro v2 T2 L2 X2 ⟨rfl, e2, rfl⟩
      refine W.iloadN X2 hx 41 (hb hby at_40) rfl rfl ?_
      refine W.icmpNe X2 hx 56 44 (hb hby at_41) (by decide) (by decide) rfl (fun q3 => ?_) (fun q3 => ?_)
      · exact absurd rfl q3
      · skip
        refine W.aloadN X2 hx 45 (hb hby at_44) rfl rfl rfl ?_
        refine W.callV X2 hx hZ 48 0 u [] hown (hw _ (List.mem_of_getElem? (i := 15) rfl)) (hw _ (List.mem_of_getElem? (i := 16) rfl)) (hw _ (List.mem_of_getElem? (i := 18) rfl)) (hw _ (List.mem_of_getElem? (i := 17) rfl)) (hw _ (List.mem_of_getElem? (i := 2) rfl)) (hw _ (List.mem_of_getElem? (i := 19) rfl)) (by decide) pd_1 rfl e2 EU (rm3 l Z a0 hw u u cl bi sv (0 : Int32) h0 SU SC SB SS (by simp [n1, n2, n3, n4, n5, n6, n1.symm, n2.symm, n3.symm, n4.symm, n5.symm, n6.symm])) (hb hby at_45) (by rw [hml]; rfl) rfl rfl (by decide) (by decide) (by decide) (by decide) rfl ?_
        rintro v3 T3 L3 X3 ⟨rfl, e3, rfl⟩
        refine W.iloadN X3 hx 49 (hb hby at_48) rfl rfl ?_
        refine W.icmpNe X3 hx 56 52 (hb hby at_49) (by decide) (by decide) rfl (fun q3 => ?_) (fun q3 => ?_)
        · exact absurd rfl q3
        · skip
          refine W.iconst X3 hx 53 (1 : Int32) (hb hby at_52) rfl rfl ?_
          refine W.goto X3 hx 57 (hb hby at_53) (by decide) (by decide) ?_
          refine W.nret X3 hx hlk (t := .boolean) hret (by simp) (hb hby at_57) (by decide) (by decide) ?_
          exact ⟨rfl, Fr.nil _⟩
    · skip
      refine W.iconst X0 hx 19 (1 : Int32) (hb hby at_18) rfl rfl ?_
      refine W.goto X0 hx 23 (hb hby at_19) (by decide) (by decide) ?_
      refine W.istoreN X0 hx 24 #[.val (.int p1), .val (.int (0 : Int32)), .val (.int (1 : Int32)), .unset] (hb hby at_23) rfl rfl ?_
      refine W.iloadN X0 hx 25 (hb hby at_24) rfl rfl ?_
      refine W.iloadN X0 hx 26 (hb hby at_25) rfl rfl ?_
      refine W.callS X0 hx hZ 29 0 [(.int (0 : Int32)), (.int (1 : Int32))] hown (hw _ (List.mem_of_getElem? (i := 0) rfl)) (hw _ (List.mem_of_getElem? (i := 1) rfl)) (hw _ (List.mem_of_getElem? (i := 2) rfl)) (hw _ (List.mem_of_getElem? (i := 3) rfl)) (by decide) pd_0 rfl e0 (rm1 l Z a0 hw (0 : Int32) (1 : Int32) u cl bi sv sv h0 SU SC SB SS (by simp)) (hb hby at_26) (by rw [hml]; rfl) rfl rfl (by decide) (by decide) (by decide) (by decide) rfl ?_
      rintro v4 T4 L4 X4 ⟨rfl, e4, rfl⟩
      refine W.astoreN X4 hx 30 #[.val (.int p1), .val (.int (0 : Int32)), .val (.int (1 : Int32)), .val (.ref sv)] (hb hby at_29) rfl rfl rfl ?_
      refine W.aloadN X4 hx 31 (hb hby at_30) rfl rfl rfl ?_
      refine W.nonnullR X4 hx 36 (hb hby at_31) (by decide) (by decide) ?_
      refine W.aloadN X4 hx 37 (hb hby at_36) rfl rfl rfl ?_
      refine W.callV X4 hx hZ 40 0 sv [] hown (hw _ (List.mem_of_getElem? (i := 6) rfl)) (hw _ (List.mem_of_getElem? (i := 7) rfl)) (hw _ (List.mem_of_getElem? (i := 9) rfl)) (hw _ (List.mem_of_getElem? (i := 8) rfl)) (hw _ (List.mem_of_getElem? (i := 2) rfl)) (hw _ (List.mem_of_getElem? (i := 10) rfl)) (by decide) pd_1 rfl e4 ES (rm2 l Z a0 hw sv u cl bi sv (0 : Int32) h0 SU SC SB SS (by simp [n1, n2, n3, n4, n5, n6, n1.symm, n2.symm, n3.symm, n4.symm, n5.symm, n6.symm])) (hb hby at_37) (by rw [hml]; rfl) rfl rfl (by decide) (by decide) (by decide) (by decide) rfl ?_
      rintro v5 T5 L5 X5 ⟨rfl, e5, rfl⟩
      refine W.iloadN X5 hx 41 (hb hby at_40) rfl rfl ?_
      refine W.icmpNe X5 hx 56 44 (hb hby at_41) (by decide) (by decide) rfl (fun q3 => ?_) (fun q3 => ?_)
      · exact absurd rfl q3
      · skip
        refine W.aloadN X5 hx 45 (hb hby at_44) rfl rfl rfl ?_
        refine W.callV X5 hx hZ 48 0 sv [] hown (hw _ (List.mem_of_getElem? (i := 15) rfl)) (hw _ (List.mem_of_getElem? (i := 16) rfl)) (hw _ (List.mem_of_getElem? (i := 18) rfl)) (hw _ (List.mem_of_getElem? (i := 17) rfl)) (hw _ (List.mem_of_getElem? (i := 2) rfl)) (hw _ (List.mem_of_getElem? (i := 19) rfl)) (by decide) pd_1 rfl e5 ES (rm3 l Z a0 hw sv u cl bi sv (1 : Int32) h0 SU SC SB SS (by simp [n1, n2, n3, n4, n5, n6, n1.symm, n2.symm, n3.symm, n4.symm, n5.symm, n6.symm])) (hb hby at_45) (by rw [hml]; rfl) rfl rfl (by decide) (by decide) (by decide) (by decide) rfl ?_
        rintro v6 T6 L6 X6 ⟨rfl, e6, rfl⟩
        refine W.iloadN X6 hx 49 (hb hby at_48) rfl rfl ?_
        refine W.icmpNe X6 hx 56 52 (hb hby at_49) (by decide) (by decide) rfl (fun q3 => ?_) (fun q3 => ?_)
        · exact absurd rfl q3
        · skip
          refine W.iconst X6 hx 53 (1 : Int32) (hb hby at_52) rfl rfl ?_
          refine W.goto X6 hx 57 (hb hby at_53) (by decide) (by decide) ?_
          refine W.nret X6 hx hlk (t := .boolean) hret (by simp) (hb hby at_57) (by decide) (by decide) ?_
          exact ⟨rfl, Fr.nil _⟩
  · skip
    refine W.iconst X0 hx 7 (1 : Int32) (hb hby at_6) rfl rfl ?_
    refine W.goto X0 hx 11 (hb hby at_7) (by decide) (by decide) ?_
    refine W.istoreN X0 hx 12 #[.val (.int p1), .val (.int (1 : Int32)), .unset, .unset] (hb hby at_11) rfl rfl ?_
    refine W.iloadN X0 hx 13 (hb hby at_12) rfl rfl ?_
    refine W.iconst X0 hx 14 (2 : Int32) (hb hby at_13) rfl rfl ?_
    refine W.iand X0 hx 15 (hb hby at_14) rfl ?_
    refine W.ifEq X0 hx 22 18 (hb hby at_15) (by decide) (by decide) rfl (fun q2 => ?_) (fun q2 => ?_)
    · skip
      refine W.iconst X0 hx 23 (0 : Int32) (hb hby at_22) rfl rfl ?_
      refine W.istoreN X0 hx 24 #[.val (.int p1), .val (.int (1 : Int32)), .val (.int (0 : Int32)), .unset] (hb hby at_23) rfl rfl ?_
      refine W.iloadN X0 hx 25 (hb hby at_24) rfl rfl ?_
      refine W.iloadN X0 hx 26 (hb hby at_25) rfl rfl ?_
      refine W.callS X0 hx hZ 29 0 [(.int (1 : Int32)), (.int (0 : Int32))] hown (hw _ (List.mem_of_getElem? (i := 0) rfl)) (hw _ (List.mem_of_getElem? (i := 1) rfl)) (hw _ (List.mem_of_getElem? (i := 2) rfl)) (hw _ (List.mem_of_getElem? (i := 3) rfl)) (by decide) pd_0 rfl e0 (rm1 l Z a0 hw (1 : Int32) (0 : Int32) u cl bi sv cl h0 SU SC SB SS (by simp)) (hb hby at_26) (by rw [hml]; rfl) rfl rfl (by decide) (by decide) (by decide) (by decide) rfl ?_
      rintro v7 T7 L7 X7 ⟨rfl, e7, rfl⟩
      refine W.astoreN X7 hx 30 #[.val (.int p1), .val (.int (1 : Int32)), .val (.int (0 : Int32)), .val (.ref cl)] (hb hby at_29) rfl rfl rfl ?_
      refine W.aloadN X7 hx 31 (hb hby at_30) rfl rfl rfl ?_
      refine W.nonnullR X7 hx 36 (hb hby at_31) (by decide) (by decide) ?_
      refine W.aloadN X7 hx 37 (hb hby at_36) rfl rfl rfl ?_
      refine W.callV X7 hx hZ 40 0 cl [] hown (hw _ (List.mem_of_getElem? (i := 6) rfl)) (hw _ (List.mem_of_getElem? (i := 7) rfl)) (hw _ (List.mem_of_getElem? (i := 9) rfl)) (hw _ (List.mem_of_getElem? (i := 8) rfl)) (hw _ (List.mem_of_getElem? (i := 2) rfl)) (hw _ (List.mem_of_getElem? (i := 10) rfl)) (by decide) pd_1 rfl e7 EC (rm2 l Z a0 hw cl u cl bi sv (1 : Int32) h0 SU SC SB SS (by simp [n1, n2, n3, n4, n5, n6, n1.symm, n2.symm, n3.symm, n4.symm, n5.symm, n6.symm])) (hb hby at_37) (by rw [hml]; rfl) rfl rfl (by decide) (by decide) (by decide) (by decide) rfl ?_
      rintro v8 T8 L8 X8 ⟨rfl, e8, rfl⟩
      refine W.iloadN X8 hx 41 (hb hby at_40) rfl rfl ?_
      refine W.icmpNe X8 hx 56 44 (hb hby at_41) (by decide) (by decide) rfl (fun q3 => ?_) (fun q3 => ?_)
      · exact absurd rfl q3
      · skip
        refine W.aloadN X8 hx 45 (hb hby at_44) rfl rfl rfl ?_
        refine W.callV X8 hx hZ 48 0 cl [] hown (hw _ (List.mem_of_getElem? (i := 15) rfl)) (hw _ (List.mem_of_getElem? (i := 16) rfl)) (hw _ (List.mem_of_getElem? (i := 18) rfl)) (hw _ (List.mem_of_getElem? (i := 17) rfl)) (hw _ (List.mem_of_getElem? (i := 2) rfl)) (hw _ (List.mem_of_getElem? (i := 19) rfl)) (by decide) pd_1 rfl e8 EC (rm3 l Z a0 hw cl u cl bi sv (0 : Int32) h0 SU SC SB SS (by simp [n1, n2, n3, n4, n5, n6, n1.symm, n2.symm, n3.symm, n4.symm, n5.symm, n6.symm])) (hb hby at_45) (by rw [hml]; rfl) rfl rfl (by decide) (by decide) (by decide) (by decide) rfl ?_
        rintro v9 T9 L9 X9 ⟨rfl, e9, rfl⟩
        refine W.iloadN X9 hx 49 (hb hby at_48) rfl rfl ?_
        refine W.icmpNe X9 hx 56 52 (hb hby at_49) (by decide) (by decide) rfl (fun q3 => ?_) (fun q3 => ?_)
        · exact absurd rfl q3
        · skip
          refine W.iconst X9 hx 53 (1 : Int32) (hb hby at_52) rfl rfl ?_
          refine W.goto X9 hx 57 (hb hby at_53) (by decide) (by decide) ?_
          refine W.nret X9 hx hlk (t := .boolean) hret (by simp) (hb hby at_57) (by decide) (by decide) ?_
          exact ⟨rfl, Fr.nil _⟩
    · skip
      refine W.iconst X0 hx 19 (1 : Int32) (hb hby at_18) rfl rfl ?_
      refine W.goto X0 hx 23 (hb hby at_19) (by decide) (by decide) ?_
      refine W.istoreN X0 hx 24 #[.val (.int p1), .val (.int (1 : Int32)), .val (.int (1 : Int32)), .unset] (hb hby at_23) rfl rfl ?_
      refine W.iloadN X0 hx 25 (hb hby at_24) rfl rfl ?_
      refine W.iloadN X0 hx 26 (hb hby at_25) rfl rfl ?_
      refine W.callS X0 hx hZ 29 0 [(.int (1 : Int32)), (.int (1 : Int32))] hown (hw _ (List.mem_of_getElem? (i := 0) rfl)) (hw _ (List.mem_of_getElem? (i := 1) rfl)) (hw _ (List.mem_of_getElem? (i := 2) rfl)) (hw _ (List.mem_of_getElem? (i := 3) rfl)) (by decide) pd_0 rfl e0 (rm1 l Z a0 hw (1 : Int32) (1 : Int32) u cl bi sv bi h0 SU SC SB SS (by simp)) (hb hby at_26) (by rw [hml]; rfl) rfl rfl (by decide) (by decide) (by decide) (by decide) rfl ?_
      rintro v10 T10 L10 X10 ⟨rfl, e10, rfl⟩
      refine W.astoreN X10 hx 30 #[.val (.int p1), .val (.int (1 : Int32)), .val (.int (1 : Int32)), .val (.ref bi)] (hb hby at_29) rfl rfl rfl ?_
      refine W.aloadN X10 hx 31 (hb hby at_30) rfl rfl rfl ?_
      refine W.nonnullR X10 hx 36 (hb hby at_31) (by decide) (by decide) ?_
      refine W.aloadN X10 hx 37 (hb hby at_36) rfl rfl rfl ?_
      refine W.callV X10 hx hZ 40 0 bi [] hown (hw _ (List.mem_of_getElem? (i := 6) rfl)) (hw _ (List.mem_of_getElem? (i := 7) rfl)) (hw _ (List.mem_of_getElem? (i := 9) rfl)) (hw _ (List.mem_of_getElem? (i := 8) rfl)) (hw _ (List.mem_of_getElem? (i := 2) rfl)) (hw _ (List.mem_of_getElem? (i := 10) rfl)) (by decide) pd_1 rfl e10 EB (rm2 l Z a0 hw bi u cl bi sv (1 : Int32) h0 SU SC SB SS (by simp [n1, n2, n3, n4, n5, n6, n1.symm, n2.symm, n3.symm, n4.symm, n5.symm, n6.symm])) (hb hby at_37) (by rw [hml]; rfl) rfl rfl (by decide) (by decide) (by decide) (by decide) rfl ?_
      rintro v11 T11 L11 X11 ⟨rfl, e11, rfl⟩
      refine W.iloadN X11 hx 41 (hb hby at_40) rfl rfl ?_
      refine W.icmpNe X11 hx 56 44 (hb hby at_41) (by decide) (by decide) rfl (fun q3 => ?_) (fun q3 => ?_)
      · exact absurd rfl q3
      · skip
        refine W.aloadN X11 hx 45 (hb hby at_44) rfl rfl rfl ?_
        refine W.callV X11 hx hZ 48 0 bi [] hown (hw _ (List.mem_of_getElem? (i := 15) rfl)) (hw _ (List.mem_of_getElem? (i := 16) rfl)) (hw _ (List.mem_of_getElem? (i := 18) rfl)) (hw _ (List.mem_of_getElem? (i := 17) rfl)) (hw _ (List.mem_of_getElem? (i := 2) rfl)) (hw _ (List.mem_of_getElem? (i := 19) rfl)) (by decide) pd_1 rfl e11 EB (rm3 l Z a0 hw bi u cl bi sv (1 : Int32) h0 SU SC SB SS (by simp [n1, n2, n3, n4, n5, n6, n1.symm, n2.symm, n3.symm, n4.symm, n5.symm, n6.symm])) (hb hby at_45) (by rw [hml]; rfl) rfl rfl (by decide) (by decide) (by decide) (by decide) rfl ?_
        rintro v12 T12 L12 X12 ⟨rfl, e12, rfl⟩
        refine W.iloadN X12 hx 49 (hb hby at_48) rfl rfl ?_
        refine W.icmpNe X12 hx 56 52 (hb hby at_49) (by decide) (by decide) rfl (fun q3 => ?_) (fun q3 => ?_)
        · exact absurd rfl q3
        · skip
          refine W.iconst X12 hx 53 (1 : Int32) (hb hby at_52) rfl rfl ?_
          refine W.goto X12 hx 57 (hb hby at_53) (by decide) (by decide) ?_
          refine W.nret X12 hx hlk (t := .boolean) hret (by simp) (hb hby at_57) (by decide) (by decide) ?_
          exact ⟨rfl, Fr.nil _⟩
set_option maxRecDepth 65536 in
set_option maxHeartbeats 40000000 in
theorem comes_1 {Post : Tables → Env → Array Value → State → Outcome → State → Prop} (hpost : ∀ tb e args s v u, (limb_1_1.after args s (.returned v) u = true ∧ limb_1_2.after args s (.returned v) u = true ∧ True) → FrameEnd s (.returned v) u (Jvm.fieldLocs frame_1_writes args s ++ Jvm.arrayLocs frame_1_arrays args s ++ Jvm.staticLocs frame_1_statics s) 0 0 → Post tb e args s (.returned v) u) :
    ArmFor flags0 classFile x code maxLocals ret World_1 tables_1 room_1 Calls_1 rest_1 Pre_1 Post := by
  intro l hfl _ _ p e ha hc hk s m args below hf hA hF happ hP
  obtain ⟨hcalls, hrest, hpre⟩ := hP
  obtain ⟨-, -, -, hnamed, -, -, -, hat⟩ := (Spec.applies_iff hf).mp happ
  obtain ⟨hg, hn⟩ := and_e (Cond.before_iff.mp (show (Jvm.Cond.and given_1 narrow_1).before args s = true from hpre))
  obtain ⟨hcount, hg0⟩ := and_e hg
  have k0 := hg0
  obtain ⟨w0, rfl⟩ : ∃ w0 : Value, args = #[w0] := by
    have hs : args.size = 1 := by simpa [Cond.value, given_1] using hcount
    obtain ⟨L⟩ := args
    match L, hs with
    | [w0], _ => exact ⟨w0, rfl⟩
  have hw := fun d (hd : d ∈ tables_1) => atoms_spec (ws := Jvm.Cond.code x code maxLocals ret :: tables_1) hat d (List.mem_cons_of_mem _ hd)
  have hfit : Fit s := fun {y c} hc i hi => by
    obtain ⟨ha, rfl⟩ := Array.getElem?_eq_some_iff.mp hc
    have q := List.all_eq_true.mp ((Array.all_eq_true_iff_forall_mem.mp hF) _ (Array.getElem_mem ha)) i (List.mem_range.mpr hi)
    simpa [Array.getElem?_eq_getElem hi] using q
  obtain ⟨i0, j0⟩ := is_v k0
  obtain rfl : w0 = (.int i0) := Option.some.inj j0
  obtain ⟨x1, hn⟩ := and_e hn
  obtain ⟨x2, hn⟩ := and_e hn
  obtain ⟨o1, hn⟩ := and_e hn
  obtain ⟨o2, hn⟩ := and_e hn
  obtain ⟨x3, hn⟩ := and_e hn
  obtain ⟨o3, hn⟩ := and_e hn
  obtain ⟨x4, o4⟩ := and_e hn
  obtain ⟨u, v1⟩ := exa_v x1
  have E1 := Exa.start v1 x1
  have S1 := Sta.start v1 (Or.inr ⟨(hw _ (List.mem_of_getElem? (i := 2) rfl)), (hw _ (List.mem_of_getElem? (i := 5) rfl))⟩)
  have F1 := own_fld v1 o1
  obtain ⟨cl, v2⟩ := exa_v x2
  have E2 := Exa.start v2 x2
  have S2 := Sta.start v2 (Or.inr ⟨(hw _ (List.mem_of_getElem? (i := 2) rfl)), (hw _ (List.mem_of_getElem? (i := 12) rfl))⟩)
  have F2 := own_fld v2 o2
  obtain ⟨bi, v3⟩ := exa_v x3
  have E3 := Exa.start v3 x3
  have S3 := Sta.start v3 (Or.inr ⟨(hw _ (List.mem_of_getElem? (i := 2) rfl)), (hw _ (List.mem_of_getElem? (i := 14) rfl))⟩)
  have F3 := own_fld v3 o3
  obtain ⟨sv, v4⟩ := exa_v x4
  have E4 := Exa.start v4 x4
  have S4 := Sta.start v4 (Or.inr ⟨(hw _ (List.mem_of_getElem? (i := 2) rfl)), (hw _ (List.mem_of_getElem? (i := 21) rfl))⟩)
  have F4 := own_fld v4 o4
  obtain ⟨n, o, h1, h2, h3, _, L, rfl, ⟨rfl, N⟩, hq⟩ := rm0 l s _ hw tables_1 i0 u cl bi sv s.heap s.heap.size (Nat.le_refl _) S1 S2 S3 S4 E1 E2 E3 E4 (F1.ne F2 (by decide)) (F1.ne F3 (by decide)) (F1.ne F4 (by decide)) (F2.ne F3 (by decide)) (F2.ne F4 (by decide)) (F3.ne F4 (by decide)) p e ha hc hk s m _ below hf ((Spec.applies_iff_loose hf).mp happ).1 ⟨rfl, State.Warmed39.refl s, rfl⟩ trivial
  refine ⟨n, _, h1, h2, h3, hpost _ _ _ _ _ _ ⟨Cond.after_iff.mpr rfl, Cond.after_iff.mpr (eq_i res_at (Term.int_eval (1)) rfl), trivial⟩ ⟨hq.1, hq.2.1, (hq.2.2.sift fun y hy => Or.inr (N y hy)).mono (by decide) (by decide)⟩⟩
theorem main_1_1 : Claimed_1_1 := comes_1 fun _ _ _ _ _ _ h hF => ⟨h.1, hF⟩
theorem main_1_2 : Claimed_1_2 := comes_1 fun _ _ _ _ _ _ h hF => ⟨h.2.1, hF⟩
end Jvm.Pilot.@@N@@
namespace Jvm.Pilot.@@N@@
open Jvm Jvm.ClassFile Sem Op Lib Jvm.Free Jvm.Stand Jvm.Pilot.@@N@@.Jvm.D
/-! MADE BY PROGRAM (witnessworld.py) out of the Statement's table words and the real class files: 12 classes; the members and pool entries that the words name. The judged class is class 1, her method 1. -/
namespace start1
open Jvm.ClassFile
def u (s : String) : CpInfo := .utf8 (stringToUtf16 s)
/-- a pool by its gaps: so many unusable entries, then the entry; so many at the end -/
def gap : Nat → List CpInfo → List CpInfo
  | 0, r => r
  | n + 1, r => .unusable :: gap n r
def poolList (es : List (Nat × CpInfo)) (last : Nat) : List CpInfo := es.foldr (fun e r => gap e.1 (e.2 :: r)) (gap last [])
def pool (es : List (Nat × CpInfo)) (last : Nat) : Array CpInfo := ⟨poolList es last⟩
def fileOf (pool : Array CpInfo) (this : Nat) (attrs : Array Attribute := #[]) (ms : Array MethodInfo := #[]) (fl : Nat := 33) (sup : Nat := 0) (ifs : Array Nat := #[]) (fds : Array FieldInfo := #[]) : ClassFile where
  minorVersion := 0
  majorVersion := 65
  constantPool := pool
  accessFlags := fl
  thisClass := this
  superClass := sup
  interfaces := ifs
  fields := fds
  methods := ms
  attributes := attrs
def plain (name : String) (sup : Option ClassId) : Class where
  name := name
  kind := .ordinary
  loader := none
  accessFlags := 33
  super := sup
  interfaces := #[]
  cf := none
  fields := #[]
  methods := #[]
  instanceTypes := #[]
  staticTypes := #[]
  resolved := #[]
  callSites := []
  init := .initialized
  statics := none
  mirror := none

def pool0 : Array CpInfo := pool [(5, u "<init>"), (0, u "()V"), (1, .class_ 10), (1, u "java/lang/Object")] 113

def k0m0 : Method := { name := "<init>", desc := "()V", sig := { parameters := [], returnType := none }, accessFlags := 1, code := none }
/-- java/lang/Object -/
def k0 : Class := { plain "java/lang/Object" none with
  accessFlags := 33
  interfaces := #[]
  cf := some (fileOf pool0 8 #[] #[{ accessFlags := 1, nameIndex := 5, descriptorIndex := 6, attributes := #[] }] 33 0 #[] #[])
  fields := #[]
  methods := #[k0m0]
  instanceTypes := #[]
  staticTypes := #[]
  resolved := Array.replicate 124 none
  statics := none }

def pool1 : Array CpInfo := pool [(2, .class_ 4), (1, u "java/lang/Object"), (0, u "<init>"), (0, u "()V"), (0, .methodref 8 9), (0, .class_ 10), (0, .nameAndType 11 12), (0, u "com/example/wirecall/wirecall/MethodDescriptor$Shape"), (0, u "of"), (0, u "(ZZ)Lcom/example/wirecall/wirecall/MethodDescriptor$Shape;"), (0, .methodref 8 14), (0, .nameAndType 15 16), (0, u "isClientStreaming"), (0, u "()Z"), (0, .methodref 8 18), (0, .nameAndType 19 16), (0, u "isServerStreaming"), (0, .class_ 21), (0, u "com/example/wirecall/wirecall/ShapeOfPinLaw"), (2, u "law"), (0, u "(I)Z")] 7

def k1m0 : Method := { name := "<init>", desc := "()V", sig := { parameters := [], returnType := none }, accessFlags := 2, code := none }
def k1c1 : Code := { maxStack := 2, maxLocals := 4, code := code, exceptionTable := #[], attributes := #[] }
def k1m1 : Method := { name := "law", desc := "(I)Z", sig := { parameters := [.int], returnType := some .boolean }, accessFlags := 9, code := some k1c1 }
/-- com/example/wirecall/wirecall/ShapeOfPinLaw -/
def k1 : Class := { plain "com/example/wirecall/wirecall/ShapeOfPinLaw" (some 0) with
  accessFlags := 49
  interfaces := #[]
  cf := some (fileOf pool1 20 #[] #[{ accessFlags := 2, nameIndex := 5, descriptorIndex := 6, attributes := #[] }, { accessFlags := 9, nameIndex := 24, descriptorIndex := 25, attributes := #[] }] 49 2 #[] #[])
  fields := #[]
  methods := #[k1m0, k1m1]
  instanceTypes := #[]
  staticTypes := #[]
  resolved := Array.replicate 33 none
  statics := none }

def pool2 : Array CpInfo := pool [(1, .class_ 2), (0, u "java/lang/constant/Constable"), (0, .class_ 4), (0, u "java/lang/Object")] 6

/-- java/lang/constant/Constable -/
def k2 : Class := { plain "java/lang/constant/Constable" (some 0) with
  accessFlags := 1537
  interfaces := #[]
  cf := some (fileOf pool2 1 #[] #[] 1537 3 #[] #[])
  fields := #[]
  methods := #[]
  instanceTypes := #[]
  staticTypes := #[]
  resolved := Array.replicate 11 none
  statics := none }

def pool3 : Array CpInfo := pool [(1, .class_ 2), (0, u "java/lang/Comparable"), (0, .class_ 4), (0, u "java/lang/Object")] 7

/-- java/lang/Comparable -/
def k3 : Class := { plain "java/lang/Comparable" (some 0) with
  accessFlags := 1537
  interfaces := #[]
  cf := some (fileOf pool3 1 #[] #[] 1537 3 #[] #[])
  fields := #[]
  methods := #[]
  instanceTypes := #[]
  staticTypes := #[]
  resolved := Array.replicate 12 none
  statics := none }

def pool4 : Array CpInfo := pool [(1, .class_ 2), (0, u "java/io/Serializable"), (0, .class_ 4), (0, u "java/lang/Object")] 2

/-- java/io/Serializable -/
def k4 : Class := { plain "java/io/Serializable" (some 0) with
  accessFlags := 1537
  interfaces := #[]
  cf := some (fileOf pool4 1 #[] #[] 1537 3 #[] #[])
  fields := #[]
  methods := #[]
  instanceTypes := #[]
  staticTypes := #[]
  resolved := Array.replicate 7 none
  statics := none }

def pool5 : Array CpInfo := pool [(2, .class_ 4), (1, u "java/lang/Enum"), (0, u "name"), (0, u "Ljava/lang/String;"), (2, u "ordinal"), (0, u "I"), (1, .class_ 14), (1, u "java/lang/Object"), (4, u "hash"), (86, .class_ 108), (1, u "java/lang/Enum$EnumDesc"), (2, .class_ 112), (0, u "java/lang/constant/Constable"), (0, .class_ 114), (0, u "java/lang/Comparable"), (0, .class_ 116), (0, u "java/io/Serializable")] 87

/-- java/lang/Enum -/
def k5 : Class := { plain "java/lang/Enum" (some 0) with
  accessFlags := 1057
  interfaces := #[2, 3, 4]
  cf := some (fileOf pool5 2 #[.nestMembers #[106]] #[] 1057 12 #[111, 113, 115] #[{ accessFlags := 18, nameIndex := 5, descriptorIndex := 6, attributes := #[] }, { accessFlags := 18, nameIndex := 9, descriptorIndex := 10, attributes := #[] }, { accessFlags := 2, nameIndex := 19, descriptorIndex := 10, attributes := #[] }])
  fields := #[{ name := "name", type := (.object "java/lang/String"), accessFlags := 18, slot := 0, constantValue := 0 }, { name := "ordinal", type := .int, accessFlags := 18, slot := 1, constantValue := 0 }, { name := "hash", type := .int, accessFlags := 2, slot := 2, constantValue := 0 }]
  methods := #[]
  instanceTypes := #[(.object "java/lang/String"), .int, .int]
  staticTypes := #[]
  resolved := Array.replicate 204 none
  statics := none }

def pool6 : Array CpInfo := pool [(1, .class_ 2), (0, u "com/example/wirecall/wirecall/MethodDescriptor$Shape"), (0, .fieldref 1 4), (0, .nameAndType 5 6), (0, u "UNARY"), (0, u "Lcom/example/wirecall/wirecall/MethodDescriptor$Shape;"), (0, .fieldref 1 8), (0, .nameAndType 9 6), (0, u "SERVER_STREAMING"), (0, .fieldref 1 11), (0, .nameAndType 12 6), (0, u "CLIENT_STREAMING"), (0, .fieldref 1 14), (0, .nameAndType 15 6), (0, u "BIDIRECTIONAL"), (2, u "$VALUES"), (0, u "[Lcom/example/wirecall/wirecall/MethodDescriptor$Shape;"), (6, .class_ 28), (1, u "java/lang/Enum"), (22, u "of"), (0, u "(ZZ)Lcom/example/wirecall/wirecall/MethodDescriptor$Shape;"), (1, u "isClientStreaming"), (0, u "()Z"), (0, u "isServerStreaming"), (5, .class_ 63), (0, u "com/example/wirecall/wirecall/MethodDescriptor")] 2

def k6c0 : Code := { maxStack := 1, maxLocals := 2, code := prog_35_method_4_code, exceptionTable := #[], attributes := #[] }
def k6m0 : Method := { name := "of", desc := "(ZZ)Lcom/example/wirecall/wirecall/MethodDescriptor$Shape;", sig := { parameters := [.boolean, .boolean], returnType := some (.object "com/example/wirecall/wirecall/MethodDescriptor$Shape") }, accessFlags := 9, code := some k6c0 }
def k6c1 : Code := { maxStack := 2, maxLocals := 1, code := prog_35_method_5_code, exceptionTable := #[], attributes := #[] }
def k6m1 : Method := { name := "isClientStreaming", desc := "()Z", sig := { parameters := [], returnType := some .boolean }, accessFlags := 1, code := some k6c1 }
def k6c2 : Code := { maxStack := 2, maxLocals := 1, code := prog_35_method_6_code, exceptionTable := #[], attributes := #[] }
def k6m2 : Method := { name := "isServerStreaming", desc := "()Z", sig := { parameters := [], returnType := some .boolean }, accessFlags := 1, code := some k6c2 }
/-- com/example/wirecall/wirecall/MethodDescriptor$Shape -/
def k6 : Class := { plain "com/example/wirecall/wirecall/MethodDescriptor$Shape" (some 5) with
  accessFlags := 16433
  interfaces := #[]
  cf := some (fileOf pool6 1 #[.nestHost 62] #[{ accessFlags := 9, nameIndex := 51, descriptorIndex := 52, attributes := #[] }, { accessFlags := 1, nameIndex := 54, descriptorIndex := 55, attributes := #[] }, { accessFlags := 1, nameIndex := 56, descriptorIndex := 55, attributes := #[] }] 16433 26 #[] #[{ accessFlags := 16409, nameIndex := 5, descriptorIndex := 6, attributes := #[] }, { accessFlags := 16409, nameIndex := 9, descriptorIndex := 6, attributes := #[] }, { accessFlags := 16409, nameIndex := 12, descriptorIndex := 6, attributes := #[] }, { accessFlags := 16409, nameIndex := 15, descriptorIndex := 6, attributes := #[] }, { accessFlags := 4122, nameIndex := 18, descriptorIndex := 19, attributes := #[] }])
  fields := #[{ name := "UNARY", type := (.object "com/example/wirecall/wirecall/MethodDescriptor$Shape"), accessFlags := 16409, slot := 0, constantValue := 0 }, { name := "SERVER_STREAMING", type := (.object "com/example/wirecall/wirecall/MethodDescriptor$Shape"), accessFlags := 16409, slot := 1, constantValue := 0 }, { name := "CLIENT_STREAMING", type := (.object "com/example/wirecall/wirecall/MethodDescriptor$Shape"), accessFlags := 16409, slot := 2, constantValue := 0 }, { name := "BIDIRECTIONAL", type := (.object "com/example/wirecall/wirecall/MethodDescriptor$Shape"), accessFlags := 16409, slot := 3, constantValue := 0 }, { name := "$VALUES", type := (.array (.object "com/example/wirecall/wirecall/MethodDescriptor$Shape")), accessFlags := 4122, slot := 4, constantValue := 0 }]
  methods := #[k6m0, k6m1, k6m2]
  instanceTypes := #[(.object "java/lang/String"), .int, .int]
  staticTypes := #[(.object "com/example/wirecall/wirecall/MethodDescriptor$Shape"), (.object "com/example/wirecall/wirecall/MethodDescriptor$Shape"), (.object "com/example/wirecall/wirecall/MethodDescriptor$Shape"), (.object "com/example/wirecall/wirecall/MethodDescriptor$Shape"), (.array (.object "com/example/wirecall/wirecall/MethodDescriptor$Shape"))]
  resolved := Array.replicate 66 none
  statics := some 0 }

def pool7 : Array CpInfo := pool [(1, u "java/lang/Cloneable"), (0, .class_ 1), (0, u "java/lang/Object"), (0, .class_ 3)] 3

/-- java/lang/Cloneable -/
def k7 : Class := { plain "java/lang/Cloneable" (some 0) with
  accessFlags := 1537
  interfaces := #[]
  cf := some (fileOf pool7 2 #[] #[] 1537 4 #[] #[])
  fields := #[]
  methods := #[]
  instanceTypes := #[]
  staticTypes := #[]
  resolved := Array.replicate 8 none
  statics := none }

/-- the primitive byte -/
def k8 : Class := { plain "byte" none with kind := .primitive 'B', accessFlags := 0x411 }
/-- [B -/
def k9 : Class := { plain "[B" (some 0) with kind := .array 8 .byte, interfaces := #[7, 4], accessFlags := 1041 }

/-- the primitive int -/
def k10 : Class := { plain "int" none with kind := .primitive 'I', accessFlags := 0x411 }
/-- [I -/
def k11 : Class := { plain "[I" (some 0) with kind := .array 10 .int, interfaces := #[7, 4], accessFlags := 1041 }

def heap : Heap := #[{ cls := 6, slots := #[.ref 1, .ref 4, .ref 2, .ref 3, .null], vm := .statics 6 },
  { cls := 6, slots := #[.null, .int 0, .int 0], vm := .none },
  { cls := 6, slots := #[.null, .int 2, .int 0], vm := .none },
  { cls := 6, slots := #[.null, .int 3, .int 0], vm := .none },
  { cls := 6, slots := #[.null, .int 1, .int 0], vm := .none }]
def classes : Array Class := #[k0, k1, k2, k3, k4, k5, k6, k7, k8, k9, k10, k11]
def interned : List (Array UInt16 × Addr) := []
def slotsUsed : Nat := 17
def theMethod : MethodId := ⟨1, 1⟩
def args0 : Array Value := #[.int 3]
def aboutOver (below : List Frame) : State where
  vm := { classes := classes, interned := interned.toArray }
  heap := heap
  slotsUsed := slotsUsed
  threads := #[{ frames := .invoking theMethod args0 :: below }]
def below0 : List Frame := [.native { method := ⟨0, 0⟩, args := #[] }]
def about1 : State := aboutOver below0
def p0 : Program := .bare "" "" ""
def e0 : Env := launch0.env 0 0 0
theorem w_frames : about1.frames = Frame.invoking theMethod args0 :: below0 := rfl
set_option maxRecDepth 65536 in
theorem w_args : argsFit about1.vm theMethod args0 = true := by decide +kernel
set_option maxRecDepth 65536 in
theorem w_heap : heapFits about1 = true := by decide +kernel
set_option maxRecDepth 65536 in
theorem w_runnable : about1.curStatus? = some .runnable := by decide +kernel
set_option maxRecDepth 65536 in
theorem w_alone : about1.alone = true := by decide +kernel
set_option maxRecDepth 65536 in
theorem w_named : about1.methodNamed? x = some theMethod := by decide +kernel
set_option maxRecDepth 65536 in
theorem w_hears : about1.hears theMethod below0 = true := by decide +kernel
set_option maxRecDepth 65536 in
theorem w_ripe : about1.ripe theMethod args0 below0 = true := by decide +kernel
theorem w_running : about1.status = .running := rfl
set_option maxRecDepth 65536 in
theorem w_room : about1.hasRoom e0.platform room_1 = true :=
  launch0.hasRoom_least _ room_1 (by decide +kernel) (by decide +kernel) (by decide +kernel) (by decide +kernel) (by decide +kernel) (by decide +kernel)
theorem allAtoms_all (ts : List Jvm.Cond) (a : Array Jvm.Value) (st : Jvm.State) : (allAtoms ts).before a st = ts.all (fun c => c.before a st) := by
  induction ts with
  | nil => rfl
  | cons c t ih =>
    show (Jvm.Cond.and c (allAtoms t)).before a st = _
    rw [Jvm.Cond.before_and, ih, List.all_cons]
def words1 : List Jvm.Cond := Jvm.Cond.code x code maxLocals ret :: tables_1
/-- a 'code' word, met by the world's own term for the bytes: nothing is compared byte by byte -/
theorem code_word {y : MethodName} {bytes : ByteArray} {mx : Nat} {rt : Option FieldType} {a : Array Value} {s : State} {m : MethodId} {meth : Method} {c : Code} (h1 : s.methodNamed? y = some m) (h2 : s.vm.method? m = some meth) (h3 : meth.code = some c) (h4 : c.code = bytes)
    (h5 : (c.maxLocals == mx && c.exceptionTable.isEmpty && decide (c.maxStack ≤ mostOperands) && decide (meth.sig.returnType = rt) && !meth.locks && decide (parseMethodDescriptor y.desc = some meth.sig)) = true) : (Jvm.Cond.code y bytes mx rt).before a s = true := by
  simp only [Bool.and_eq_true, beq_iff_eq, Bool.not_eq_true', decide_eq_true_eq] at h5
  obtain ⟨⟨⟨⟨⟨g1, g2⟩, g3⟩, g4⟩, g5⟩, g6⟩ := h5
  simp [Cond.before, Cond.holds, Cond.value, h1, h2, h3, h4, g1, g2, g3, g4, g5, g6]
def isCode : Jvm.Cond → Bool
  | .code _ _ _ _ => true
  | _ => false
theorem all_split {L : List Jvm.Cond} {P : Jvm.Cond → Bool} (h1 : L.all (fun c => isCode c || P c) = true) (h2 : ∀ c ∈ L.filter isCode, P c = true) : L.all P = true := by
  refine List.all_eq_true.mpr fun c hc => ?_
  have h := List.all_eq_true.mp h1 c hc
  rcases Bool.eq_false_or_eq_true (isCode c) with hi | hi
  · exact h2 c (List.mem_filter.mpr ⟨hc, hi⟩)
  · simpa [hi] using h
set_option maxRecDepth 65536 in
theorem w_c0 : (Jvm.Cond.code x code maxLocals ret).before args0 about1 = true := code_word (m := ⟨1, 1⟩) (meth := k1m1) (c := k1c1) (by decide +kernel) rfl rfl rfl (by decide +kernel)
set_option maxRecDepth 65536 in
theorem w_c1 : (Jvm.Cond.code ({ cls := "com/example/wirecall/wirecall/MethodDescriptor$Shape", name := "of", desc := "(ZZ)Lcom/example/wirecall/wirecall/MethodDescriptor$Shape;" } : Jvm.MethodName) prog_35_method_4_code (2 : Nat) (Option.some (Jvm.ClassFile.FieldType.object "com/example/wirecall/wirecall/MethodDescriptor$Shape"))).before args0 about1 = true := code_word (m := ⟨6, 0⟩) (meth := k6m0) (c := k6c0) (by decide +kernel) rfl rfl rfl (by decide +kernel)
set_option maxRecDepth 65536 in
theorem w_c2 : (Jvm.Cond.code ({ cls := "com/example/wirecall/wirecall/MethodDescriptor$Shape", name := "isClientStreaming", desc := "()Z" } : Jvm.MethodName) prog_35_method_5_code (1 : Nat) (Option.some Jvm.ClassFile.FieldType.boolean)).before args0 about1 = true := code_word (m := ⟨6, 1⟩) (meth := k6m1) (c := k6c1) (by decide +kernel) rfl rfl rfl (by decide +kernel)
set_option maxRecDepth 65536 in
theorem w_c3 : (Jvm.Cond.code ({ cls := "com/example/wirecall/wirecall/MethodDescriptor$Shape", name := "isServerStreaming", desc := "()Z" } : Jvm.MethodName) prog_35_method_6_code (1 : Nat) (Option.some Jvm.ClassFile.FieldType.boolean)).before args0 about1 = true := code_word (m := ⟨6, 2⟩) (meth := k6m2) (c := k6c2) (by decide +kernel) rfl rfl rfl (by decide +kernel)
def codes1 : List Jvm.Cond := [Jvm.Cond.code x code maxLocals ret, Jvm.Cond.code ({ cls := "com/example/wirecall/wirecall/MethodDescriptor$Shape", name := "of", desc := "(ZZ)Lcom/example/wirecall/wirecall/MethodDescriptor$Shape;" } : Jvm.MethodName) prog_35_method_4_code (2 : Nat) (Option.some (Jvm.ClassFile.FieldType.object "com/example/wirecall/wirecall/MethodDescriptor$Shape")), Jvm.Cond.code ({ cls := "com/example/wirecall/wirecall/MethodDescriptor$Shape", name := "isClientStreaming", desc := "()Z" } : Jvm.MethodName) prog_35_method_5_code (1 : Nat) (Option.some Jvm.ClassFile.FieldType.boolean), Jvm.Cond.code ({ cls := "com/example/wirecall/wirecall/MethodDescriptor$Shape", name := "isServerStreaming", desc := "()Z" } : Jvm.MethodName) prog_35_method_6_code (1 : Nat) (Option.some Jvm.ClassFile.FieldType.boolean)]
set_option maxRecDepth 65536 in
theorem codes_eq : words1.filter isCode = codes1 := rfl
theorem w_codes : ∀ c ∈ words1.filter isCode, c.before args0 about1 = true := by
  rw [codes_eq]
  intro c hc
  simp only [codes1, List.mem_cons, List.not_mem_nil, or_false] at hc
  rcases hc with rfl | rfl | rfl | rfl
  · exact w_c0
  · exact w_c1
  · exact w_c2
  · exact w_c3
set_option maxRecDepth 65536 in
theorem w_t1 : words1.all (fun c => isCode c || c.before args0 about1) = true := by decide +kernel
theorem w_tables : (allAtoms (Jvm.Cond.code x code maxLocals ret :: tables_1)).before args0 about1 = true := by
  rw [allAtoms_all]
  show words1.all (fun c => c.before args0 about1) = true
  refine all_split ?_ w_codes
  rw [w_t1]
set_option maxRecDepth 65536 in
theorem w_case : (Jvm.Cond.and given_1 narrow_1).before args0 about1 = true := by decide +kernel
theorem w_applies : (headSpec (Jvm.Cond.code x code maxLocals ret :: tables_1) room_1).applies x e0.platform about1 = true :=
  (Spec.applies_iff w_frames).mpr ⟨w_running, w_runnable, w_alone, w_named, w_hears, w_ripe, w_room, w_tables⟩
theorem atStart : AtStart classFile x code maxLocals ret World_1 tables_1 room_1 Calls_1 rest_1 Pre_1 launch0 p0 e0 about1 theMethod args0 below0 :=
  ⟨lists_1, trivial, launch0.admits_env _ _ _, launch0.least_env, fairChoices_fair.cas, fairChoices_fair.clock, w_frames, w_args, w_heap, w_applies, trivial, trivial, w_case⟩
end start1
theorem witness_1 : WitnessClaimed_1 := ⟨start1.p0, start1.e0, start1.about1, start1.theMethod, start1.args0, start1.below0, start1.atStart⟩
end Jvm.Pilot.@@N@@
