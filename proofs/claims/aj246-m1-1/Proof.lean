import JvmDerived
import JvmDerived.Pilot.@@N@@Statement
import JvmDerived.Pilot.@@N@@Code
set_option linter.unusedVariables false
set_option linter.unusedSimpArgs false
namespace Jvm.OwnW
open Sem ClassFile Op Lib Jvm.Stand Jvm.Free Jvm.LawKit Jvm.RoadKit
/-- what is left to be shown of a walk that stands at S: it comes back, Q holds, the frame holds -/
def Wp (p : Program) (e : Env) (s : State) (below : List Frame) (Q : Option Value → Heap → List Loc → Prop) (kc ks : Nat) (S : State) : Prop :=
  ∃ s₂ o, Steps p.tables e below S s₂ ∧ s₂.status = .running ∧ Ended s₂ below o ∧ ∃ v L, o = .returned v ∧ Q v s₂.heap L ∧ FrameEnd s o s₂ L kc ks
/-- a method's contract at given arguments and a given heap -/
def Con (l : Launch) (Z : State) (y : MethodName) (bytes : ByteArray) (maxL : Nat) (ret : Option FieldType) (ws : List Jvm.Cond) (rm : Room) (as' : Array Value) (h0 : Heap) (Q : Option Value → Heap → List Loc → Prop) : Prop :=
  MetFree l y (head1 (Jvm.Cond.code y bytes maxL ret :: ws) rm) (fun a U => a = as' ∧ Z.Warmed39 U.vm ∧ U.heap = h0) (fun _ _ _ _ _ => True) (fun _ U o U' => ∃ v L, o = .returned v ∧ Q v U'.heap L ∧ FrameEnd U o U' L rm.cells rm.slots)
/-- an array: its kind, length, and what each place holds -/
def IArr (Z : State) (h : Heap) (a : Addr) (ty : FieldType) (n : Nat) (f : Nat → Value) : Prop := ∃ c : Cell, Arr Z h a c ty ∧ c.slots.size = n ∧ ∀ j, j < n → c.slots[j]? = some (f j)
def upd (f : Nat → Value) (i : Nat) (v : Value) : Nat → Value := fun k => if k = i then v else f k
theorem upd_same (f : Nat → Value) (i : Nat) (v : Value) : upd f i v i = v := by simp [upd]
theorem upd_ne {f : Nat → Value} {i k : Nat} {v : Value} (q : k ≠ i) : upd f i v k = f k := by simp [upd, q]
section W
variable {p : Program} {l : Launch} {e : Env} {R : Room} {s : State} {m : MethodId} {args : Array Value} {below : List Frame} {meth : Method} {c : Code} {T : State} {locs : List Loc} {cells slots : Nat} {Q : Option Value → Heap → List Loc → Prop} {kc ks : Nat} {Z : State} {a0 : Array Value} {h h' : Heap} {pc : Nat} {Ls : Array Slot} {st rest : List Value} {a b : Addr} {n : Nat} {f : Nat → Value} {ty : FieldType}
theorem IArr.lt (A : IArr Z h a ty n f) : a < h.size := by obtain ⟨c, A, -⟩ := A; exact A.lt
theorem IArr.ext (A : IArr Z h a ty n f) (E : Ext h h') : IArr Z h' a ty n f := by obtain ⟨c, A, r⟩ := A; exact ⟨c, A.ext E, r⟩
theorem IArr.other {sl : Nat} {v : Value} (A : IArr Z h b ty n f) (W : Wr h h' a sl v) (q : b ≠ a) : IArr Z h' b ty n f := by obtain ⟨c, A, r⟩ := A; exact ⟨c, A.other W q, r⟩
theorem IArr.keep {ws : List Addr} (A : IArr Z h a ty n f) (K : Keep h h' ws) (q : a ∉ ws) : IArr Z h' a ty n f := by obtain ⟨c, A, r⟩ := A; exact ⟨c, ⟨K.2.1 a c A.1 q, A.2⟩, r⟩
theorem IArr.same {i : Nat} {v : Value} (A : IArr Z h a ty n f) (W : Wr h h' a i v) : IArr Z h' a ty n (upd f i v) := by
  obtain ⟨c, A, S, H⟩ := A
  refine ⟨_, A.same W, by rw [sz_set]; exact S, fun j hj => ?_⟩
  unfold upd Cell.setSlot
  dsimp only
  split
  · rename_i q; subst q
    rw [Array.getElem?_setIfInBounds_self_of_lt (by omega)]
  · rename_i q
    rw [Array.getElem?_setIfInBounds_ne (Ne.symm q)]; exact H j hj
theorem IArr.fresh {cA : ClassId} {z : Int32} {k : Nat} (A : Arr Z h a (newA cA ty z) ty) (q : z.toNatClampNeg = k) : IArr Z h a ty k (fun _ => defaultValue ty) :=
  ⟨_, A, by rw [sz_new]; exact q, fun j hj => by subst q; simp [newA, hj]⟩
theorem IArr.cong {g : Nat → Value} (A : IArr Z h a ty n f) (q : ∀ j, j < n → g j = f j) : IArr Z h a ty n g := by
  obtain ⟨c, A, S, H⟩ := A; exact ⟨c, A, S, fun j hj => by rw [H j hj, q j hj]⟩
theorem nat_of {j : Int32} {i : Nat} (hj : j.toInt = (i : Int)) : ¬ j < 0 ∧ j.toNatClampNeg = i := by
  refine ⟨?_, ?_⟩
  · rw [Int32.lt_iff_toInt_lt, hj]; show ¬ (i : Int) < 0; omega
  · show j.toInt.toNat = i; rw [hj]; rfl
theorem fr1 {k : Nat} {a : Addr} {i : Nat} (q : k ≤ a) : Fr k [⟨a, i⟩] := fun y hy => by cases List.mem_singleton.mp hy; exact q
theorem own_and (x M : Int32) (hM : 0 ≤ M.toInt) : ∃ n : Nat, (n : Int) ≤ M.toInt ∧ (x &&& M).toInt = (n : Int) := by
  have h1 : (x &&& M).toBitVec.toNat ≤ M.toBitVec.toNat := by rw [Int32.toBitVec_and, BitVec.toNat_and]; exact Nat.and_le_right
  have h2 : M.toInt = if 2 * M.toBitVec.toNat < 2 ^ 32 then (M.toBitVec.toNat : Int) else (M.toBitVec.toNat : Int) - (2 ^ 32 : Nat) := BitVec.toInt_eq_toNat_cond _
  have h3 : (x &&& M).toInt = if 2 * (x &&& M).toBitVec.toNat < 2 ^ 32 then ((x &&& M).toBitVec.toNat : Int) else ((x &&& M).toBitVec.toNat : Int) - (2 ^ 32 : Nat) := BitVec.toInt_eq_toNat_cond _
  have h4 := M.toBitVec.isLt
  refine ⟨(x &&& M).toBitVec.toNat, ?_, ?_⟩
  · split at h2 <;> omega
  · split at h2 <;> split at h3 <;> omega
theorem own_rem {x y : Int32} (hx : 0 ≤ x.toInt) (hy : 0 < y.toInt) : ∃ n : Nat, (n : Int) < y.toInt ∧ (x % y).toInt = (n : Int) ∧ (n : Int) = x.toInt % y.toInt := by
  have h1 : (x % y).toInt = x.toInt.tmod y.toInt := Int32.toInt_mod _ _
  rw [Int.tmod_eq_emod_of_nonneg hx] at h1
  have h2 := Int.emod_nonneg x.toInt (Int.ne_of_gt hy)
  have h3 := Int.emod_lt_of_pos x.toInt hy
  exact ⟨(x.toInt % y.toInt).toNat, by omega, by omega, by omega⟩
theorem own_add {x y : Int32} (h1 : -2147483648 ≤ x.toInt + y.toInt) (h2 : x.toInt + y.toInt < 2147483648) : (x + y).toInt = x.toInt + y.toInt := by
  have a := c_iadd x y
  have r := rng32 (x + y)
  omega
theorem own_sub {x y : Int32} (h1 : -2147483648 ≤ x.toInt - y.toInt) (h2 : x.toInt - y.toInt < 2147483648) : (x - y).toInt = x.toInt - y.toInt := by
  have a := c_isub x y
  have r := rng32 (x - y)
  omega
theorem own_ofNat {n : Nat} (h : n < 2147483648) : (Int32.ofNat n).toInt = (n : Int) := Int32.toInt_ofNat_of_lt h
theorem own_ieq {x : Int32} {n : Nat} (h : x.toInt = (n : Int)) : x = Int32.ofNat n := by
  have r := rng32 x
  apply Int32.toInt_inj.mp; rw [h, own_ofNat (by omega)]
theorem Wp.step {S S' : State} (f : ∀ t, Steps p.tables e below S' t → Steps p.tables e below S t) (k : Wp p e s below Q kc ks S') : Wp p e s below Q kc ks S := by
  obtain ⟨s₂, o, h1, r⟩ := k
  exact ⟨s₂, o, f _ h1, r⟩
theorem Wp.chain {S S' : State} (f : Steps p.tables e below S S') (k : Wp p e s below Q kc ks S') : Wp p e s below Q kc ks S := by
  obtain ⟨s₂, o, h1, r⟩ := k
  exact ⟨s₂, o, f.trans h1, r⟩
theorem Wp.cast {S S' : State} (q : S = S') (k : Wp p e s below Q kc ks S') : Wp p e s below Q kc ks S := q ▸ k
theorem Wp.enter {g g' : JFrame} (q : g = g') (k : Wp p e s below Q kc ks (T.setTop g')) : Wp p e s below Q kc ks (T.setTop g) := q ▸ k
theorem Wp.mono {S : State} {Q' : Option Value → Heap → List Loc → Prop} {kc' ks' : Nat} (k : Wp p e s below Q' kc' ks' S) (hq : ∀ v h L, Q' v h L → Q v h L) (h1 : kc' ≤ kc) (h2 : ks' ≤ ks) : Wp p e s below Q kc ks S := by
  obtain ⟨s₂, o, g1, g2, g3, v, L, g4, g5, g6, g7, g8⟩ := k
  exact ⟨s₂, o, g1, g2, g3, v, L, g4, hq _ _ _ g5, g6, g7, g8.mono h1 h2⟩
theorem Con.of {y : MethodName} {bytes : ByteArray} {maxL : Nat} {ret : Option FieldType} {ws : List Jvm.Cond} {rm : Room} {as' : Array Value} (hpn : plainFor y = true)
    (w : ∀ p e s m below meth c s₁, p.tables.exec = Jvm.exec → c.code = bytes → c.maxLocals = maxL → s.vm.findClass y.cls = some m.cls → meth.name = y.name → meth.sig.returnType = ret → meth.locks = false → Z.Warmed39 s.vm → Stand p l e rm s m as' below meth c s₁ [] 0 0 → s₁.heap = h → Wp p e s below Q rm.cells rm.slots (s₁.setTop (entryFrame m as' maxL))) :
    Con l Z y bytes maxL ret ws rm as' h Q := by
  refine MetFree.of_bodySF hpn hisR ?_
  intro p e s m args below meth c s₁ Bd hml0 hP hK
  obtain ⟨rfl, hZ, hh⟩ := hP
  exact w p e s m below meth c s₁ Bd.exec Bd.bytes hml0 (findClass_of_methodNamed Bd.named) (name_of_methodNamed Bd.named Bd.method).1 Bd.returns (BodyLoose.notSynchronized Bd) hZ (Stand.of_body Bd) (by rw [← hh, Bd.state]; rfl)
theorem Con.mono {y : MethodName} {bytes : ByteArray} {maxL : Nat} {ret : Option FieldType} {ws : List Jvm.Cond} {rm : Room} {as' : Array Value} {Q' : Option Value → Heap → List Loc → Prop} (k : Con l Z y bytes maxL ret ws rm as' h Q') (hq : ∀ v h L, Q' v h L → Q v h L) : Con l Z y bytes maxL ret ws rm as' h Q := by
  intro p e h1 h2 h3 s m args below h4 h5 h6 h7
  obtain ⟨n, o, g1, g2, g3, v, L, g4, g5, g6⟩ := k p e h1 h2 h3 s m args below h4 h5 h6 h7
  exact ⟨n, o, g1, g2, g3, v, L, g4, hq _ _ _ g5, g6⟩
/-! the ends -/
theorem Wp.done (X : Stand p l e R s m args below meth c T locs cells slots) (hlk : meth.locks = false) {v : Option Value} (hv : meth.sig.returnType = none → v = none)
    (stp : ∀ fs, (∀ (f : JFrame) (acts : List Action), f.method = m → f.locked = none → f.entered = [] → (doReturn e (T.setTop f) acts v).1 = T.setFrames fs) → Steps p.tables e below (T.setTop (mkF m pc Ls st)) (T.setFrames fs))
    (hQ : Q v T.heap locs) (hc : cells ≤ kc) (hs : slots ≤ ks) : Wp p e s below Q kc ks (T.setTop (mkF m pc Ls st)) := by
  obtain ⟨fs, hr, hrun, hended, hW, hsame⟩ := X.leave (v := v) hv hlk
  exact ⟨_, _, stp fs hr, hrun, hended, v, locs, rfl, hQ, ⟨_, rfl⟩, hW, hsame.mono hc hs⟩
theorem W.iret (X : Stand p l e R s m args below meth c T locs cells slots) (hx : p.tables.exec = Jvm.exec) (hlk : meth.locks = false) (hret : meth.sig.returnType = some .int) (hd : decode c.code pc = .ok (.ireturn, 1)) {z : Int32} (hc : cells ≤ kc) (hs : slots ≤ ks) (hQ : Q (some (.int z)) T.heap locs) : Wp p e s below Q kc ks (T.setTop (mkF m pc Ls (.int z :: rest))) :=
  Wp.done X hlk (fun h => by rw [hret] at h; cases h) (fun fs hr => retOut X hx hret rfl (Or.inl ⟨rfl, Or.inl rfl, _, rfl⟩) hd hr) hQ hc hs
theorem W.nret (X : Stand p l e R s m args below meth c T locs cells slots) (hx : p.tables.exec = Jvm.exec) (hlk : meth.locks = false) {t : FieldType} (hret : meth.sig.returnType = some t) (ht : t = .boolean ∨ t = .byte ∨ t = .char ∨ t = .short) (hd : decode c.code pc = .ok (.ireturn, 1)) {z : Int32} (hc : cells ≤ kc) (hs : slots ≤ ks) (hQ : Q (some (.int (nar t z))) T.heap locs) : Wp p e s below Q kc ks (T.setTop (mkF m pc Ls (.int z :: rest))) :=
  Wp.done X hlk (fun h => by rw [hret] at h; cases h) (fun fs hr => retN X hx hret ht hd hr) hQ hc hs
theorem W.lret (X : Stand p l e R s m args below meth c T locs cells slots) (hx : p.tables.exec = Jvm.exec) (hlk : meth.locks = false) (hret : meth.sig.returnType = some .long) (hd : decode c.code pc = .ok (.lreturn, 1)) {z : Int64} (hc : cells ≤ kc) (hs : slots ≤ ks) (hQ : Q (some (.long z)) T.heap locs) : Wp p e s below Q kc ks (T.setTop (mkF m pc Ls (.long z :: rest))) :=
  Wp.done X hlk (fun h => by rw [hret] at h; cases h) (fun fs hr => retOut X hx hret rfl (Or.inr (Or.inl ⟨rfl, rfl, _, rfl⟩)) hd hr) hQ hc hs
theorem W.dret (X : Stand p l e R s m args below meth c T locs cells slots) (hx : p.tables.exec = Jvm.exec) (hlk : meth.locks = false) (hret : meth.sig.returnType = some .double) (hd : decode c.code pc = .ok (.dreturn, 1)) {z : UInt64} (hc : cells ≤ kc) (hs : slots ≤ ks) (hQ : Q (some (.double z)) T.heap locs) : Wp p e s below Q kc ks (T.setTop (mkF m pc Ls (.double z :: rest))) :=
  Wp.done X hlk (fun h => by rw [hret] at h; cases h) (fun fs hr => retOut X hx hret rfl (Or.inr (Or.inr (Or.inl ⟨rfl, rfl, _, rfl⟩))) hd hr) hQ hc hs
theorem W.aret (X : Stand p l e R s m args below meth c T locs cells slots) (hx : p.tables.exec = Jvm.exec) (hlk : meth.locks = false) {t : FieldType} (hret : meth.sig.returnType = some t) (ht : t.isReference = true) {w : Value} (hw : w.isRef = true) (hd : decode c.code pc = .ok (.areturn, 1)) (hc : cells ≤ kc) (hs : slots ≤ ks) (hQ : Q (some w) T.heap locs) : Wp p e s below Q kc ks (T.setTop (mkF m pc Ls (w :: rest))) :=
  Wp.done X hlk (fun h => by rw [hret] at h; cases h) (fun fs hr => retOut X hx hret (by rcases ref_cases hw with rfl | ⟨z, rfl⟩ <;> cases t <;> first | rfl | cases ht) (Or.inr (Or.inr (Or.inr (Or.inr ⟨rfl, ht, hw⟩)))) hd hr) hQ hc hs
theorem W.vret (X : Stand p l e R s m args below meth c T locs cells slots) (hx : p.tables.exec = Jvm.exec) (hlk : meth.locks = false) (hret : meth.sig.returnType = none) (hd : decode c.code pc = .ok (.return_, 1)) (hc : cells ≤ kc) (hs : slots ≤ ks) (hQ : Q none T.heap locs) : Wp p e s below Q kc ks (T.setTop (mkF m pc Ls [])) :=
  Wp.done X hlk (fun _ => rfl) (fun fs hr => X.returnOut hx hret hd hr) hQ hc hs
/-! plain steps -/
theorem W.iconst (X : Stand p l e R s m args below meth c T locs cells slots) (hx : p.tables.exec = Jvm.exec) {i : Int} (pc' : Nat) (v : Int32) (hd : decode c.code pc = .ok (.iconst i, 1)) (hv : Int32.ofInt i = v) (hp : pc + 1 = pc') (K : Wp p e s below Q kc ks (T.setTop (mkF m pc' Ls (.int v :: st)))) : Wp p e s below Q kc ks (T.setTop (mkF m pc Ls st)) := by
  subst hp hv; exact Wp.step (fun _ k => XS.iconst X.here hx rfl hd k) K
theorem W.bipush (X : Stand p l e R s m args below meth c T locs cells slots) (hx : p.tables.exec = Jvm.exec) {i : Int} (pc' : Nat) (v : Int32) (hd : decode c.code pc = .ok (.bipush i, 2)) (hv : (Int8.ofInt i).toInt32 = v) (hp : pc + 2 = pc') (K : Wp p e s below Q kc ks (T.setTop (mkF m pc' Ls (.int v :: st)))) : Wp p e s below Q kc ks (T.setTop (mkF m pc Ls st)) := by
  subst hp hv; exact Wp.step (fun _ k => XS.bipush X.here hx rfl hd k) K
theorem W.sipush (X : Stand p l e R s m args below meth c T locs cells slots) (hx : p.tables.exec = Jvm.exec) {i : Int} (pc' : Nat) (v : Int32) (hd : decode c.code pc = .ok (.sipush i, 3)) (hv : (Int16.ofInt i).toInt32 = v) (hp : pc + 3 = pc') (K : Wp p e s below Q kc ks (T.setTop (mkF m pc' Ls (.int v :: st)))) : Wp p e s below Q kc ks (T.setTop (mkF m pc Ls st)) := by
  subst hp hv; exact Wp.step (fun _ k => XS.sipush X.here hx rfl hd k) K
theorem W.lconst (X : Stand p l e R s m args below meth c T locs cells slots) (hx : p.tables.exec = Jvm.exec) {i : Fin 2} (pc' : Nat) (v : Int64) (hd : decode c.code pc = .ok (.lconst i, 1)) (hv : (Int64.ofNat i) = v) (hp : pc + 1 = pc') (K : Wp p e s below Q kc ks (T.setTop (mkF m pc' Ls (.long v :: st)))) : Wp p e s below Q kc ks (T.setTop (mkF m pc Ls st)) := by
  subst hp hv; exact Wp.step (fun _ k => XT.lconst X.here hx rfl hd k) K
theorem W.anull (X : Stand p l e R s m args below meth c T locs cells slots) (hx : p.tables.exec = Jvm.exec) (pc' : Nat) (hd : decode c.code pc = .ok (.aconst_null, 1)) (hp : pc + 1 = pc') (K : Wp p e s below Q kc ks (T.setTop (mkF m pc' Ls (.null :: st)))) : Wp p e s below Q kc ks (T.setTop (mkF m pc Ls st)) := by
  subst hp; exact Wp.step (fun _ k => XS.aconstNull X.here hx rfl hd k) K
theorem W.ldcI (X : Stand p l e R s m args below meth c T locs cells slots) (hx : p.tables.exec = Jvm.exec) (hZ : Z.Warmed39 s.vm) {own : String} {index : Nat} {v : Int32} (pc' : Nat) (hown : s.vm.findClass own = some m.cls) (w : (Jvm.Cond.constant own index v).before a0 Z = true) (hd : decode c.code pc = .ok (.ldc index, 2)) (hp : pc + 2 = pc') (K : Wp p e s below Q kc ks (T.setTop (mkF m pc' Ls (.int v :: st)))) : Wp p e s below Q kc ks (T.setTop (mkF m pc Ls st)) := by
  subst hp; exact Wp.step (fun t k => X.ldcInt hx hown (mvT hZ w) (g := mkF m pc Ls st) rfl hd t k) K
theorem W.ldcL (X : Stand p l e R s m args below meth c T locs cells slots) (hx : p.tables.exec = Jvm.exec) (hZ : Z.Warmed39 s.vm) {own : String} {index : Nat} {v : Int64} (pc' : Nat) (hown : s.vm.findClass own = some m.cls) (w : (Jvm.Cond.constantLong own index v).before a0 Z = true) (hd : decode c.code pc = .ok (.ldc2_w index, 3)) (hp : pc + 3 = pc') (K : Wp p e s below Q kc ks (T.setTop (mkF m pc' Ls (.long v :: st)))) : Wp p e s below Q kc ks (T.setTop (mkF m pc Ls st)) := by
  subst hp; exact Wp.step (fun t k => X.ldc2Long hx hown (mvT hZ w) (g := mkF m pc Ls st) rfl hd t k) K
theorem W.iloadN (X : Stand p l e R s m args below meth c T locs cells slots) (hx : p.tables.exec = Jvm.exec) {k : Fin 4} {x : Int32} (pc' : Nat) (hd : decode c.code pc = .ok (.iload_n k, 1)) (hl : Ls[k.val]? = some (.val (.int x))) (hp : pc + 1 = pc') (K : Wp p e s below Q kc ks (T.setTop (mkF m pc' Ls (.int x :: st)))) : Wp p e s below Q kc ks (T.setTop (mkF m pc Ls st)) := by
  subst hp; exact Wp.step (fun _ k => XS.iloadN X.here hx rfl hd hl k) K
theorem W.iload (X : Stand p l e R s m args below meth c T locs cells slots) (hx : p.tables.exec = Jvm.exec) {k : Nat} {x : Int32} (pc' : Nat) (hd : decode c.code pc = .ok (.iload k, 2)) (hl : Ls[k]? = some (.val (.int x))) (hp : pc + 2 = pc') (K : Wp p e s below Q kc ks (T.setTop (mkF m pc' Ls (.int x :: st)))) : Wp p e s below Q kc ks (T.setTop (mkF m pc Ls st)) := by
  subst hp; exact Wp.step (fun _ k => XS.iload X.here hx rfl hd hl k) K
theorem W.aloadN (X : Stand p l e R s m args below meth c T locs cells slots) (hx : p.tables.exec = Jvm.exec) {k : Fin 4} {x : Value} (pc' : Nat) (hd : decode c.code pc = .ok (.aload_n k, 1)) (hl : Ls[k.val]? = some (.val x)) (hr : x.isRef = true) (hp : pc + 1 = pc') (K : Wp p e s below Q kc ks (T.setTop (mkF m pc' Ls (x :: st)))) : Wp p e s below Q kc ks (T.setTop (mkF m pc Ls st)) := by
  subst hp; exact Wp.step (fun _ k => XS.aloadN X.here hx rfl hd hl hr k) K
theorem W.aload (X : Stand p l e R s m args below meth c T locs cells slots) (hx : p.tables.exec = Jvm.exec) {k : Nat} {x : Value} (pc' : Nat) (hd : decode c.code pc = .ok (.aload k, 2)) (hl : Ls[k]? = some (.val x)) (hr : x.isRef = true) (hp : pc + 2 = pc') (K : Wp p e s below Q kc ks (T.setTop (mkF m pc' Ls (x :: st)))) : Wp p e s below Q kc ks (T.setTop (mkF m pc Ls st)) := by
  subst hp; exact Wp.step (fun _ k => XS.aload X.here hx rfl hd hl hr k) K
theorem W.lloadN (X : Stand p l e R s m args below meth c T locs cells slots) (hx : p.tables.exec = Jvm.exec) {k : Fin 4} {x : Int64} (pc' : Nat) (hd : decode c.code pc = .ok (.lload_n k, 1)) (hl : Ls[k.val]? = some (.val (.long x))) (hp : pc + 1 = pc') (K : Wp p e s below Q kc ks (T.setTop (mkF m pc' Ls (.long x :: st)))) : Wp p e s below Q kc ks (T.setTop (mkF m pc Ls st)) := by
  subst hp; exact Wp.step (fun _ k => XS.lloadN X.here hx rfl hd hl k) K
theorem W.lload (X : Stand p l e R s m args below meth c T locs cells slots) (hx : p.tables.exec = Jvm.exec) {k : Nat} {x : Int64} (pc' : Nat) (hd : decode c.code pc = .ok (.lload k, 2)) (hl : Ls[k]? = some (.val (.long x))) (hp : pc + 2 = pc') (K : Wp p e s below Q kc ks (T.setTop (mkF m pc' Ls (.long x :: st)))) : Wp p e s below Q kc ks (T.setTop (mkF m pc Ls st)) := by
  subst hp; exact Wp.step (fun _ k => XS.lload X.here hx rfl hd hl k) K
theorem W.istoreN (X : Stand p l e R s m args below meth c T locs cells slots) (hx : p.tables.exec = Jvm.exec) {k : Fin 4} {x : Int32} (pc' : Nat) (l' : Array Slot) (hd : decode c.code pc = .ok (.istore_n k, 1)) (hl : storeLocals Ls k.val (.int x) = some l') (hp : pc + 1 = pc') (K : Wp p e s below Q kc ks (T.setTop (mkF m pc' l' st))) : Wp p e s below Q kc ks (T.setTop (mkF m pc Ls (.int x :: st))) := by
  subst hp; exact Wp.step (fun _ k => XS.istoreN X.here hx rfl hd rfl hl k) K
theorem W.istore (X : Stand p l e R s m args below meth c T locs cells slots) (hx : p.tables.exec = Jvm.exec) {k : Nat} {x : Int32} (pc' : Nat) (l' : Array Slot) (hd : decode c.code pc = .ok (.istore k, 2)) (hl : storeLocals Ls k (.int x) = some l') (hp : pc + 2 = pc') (K : Wp p e s below Q kc ks (T.setTop (mkF m pc' l' st))) : Wp p e s below Q kc ks (T.setTop (mkF m pc Ls (.int x :: st))) := by
  subst hp; exact Wp.step (fun _ k => XS.istore X.here hx rfl hd rfl hl k) K
theorem W.astoreN (X : Stand p l e R s m args below meth c T locs cells slots) (hx : p.tables.exec = Jvm.exec) {k : Fin 4} {x : Value} (pc' : Nat) (l' : Array Slot) (hd : decode c.code pc = .ok (.astore_n k, 1)) (hr : x.isRef = true) (hl : storeLocals Ls k.val x = some l') (hp : pc + 1 = pc') (K : Wp p e s below Q kc ks (T.setTop (mkF m pc' l' st))) : Wp p e s below Q kc ks (T.setTop (mkF m pc Ls (x :: st))) := by
  subst hp; exact Wp.step (fun _ k => XS.astoreN X.here hx rfl hd rfl hr hl k) K
theorem W.astore (X : Stand p l e R s m args below meth c T locs cells slots) (hx : p.tables.exec = Jvm.exec) {k : Nat} {x : Value} (pc' : Nat) (l' : Array Slot) (hd : decode c.code pc = .ok (.astore k, 2)) (hr : x.isRef = true) (hl : storeLocals Ls k x = some l') (hp : pc + 2 = pc') (K : Wp p e s below Q kc ks (T.setTop (mkF m pc' l' st))) : Wp p e s below Q kc ks (T.setTop (mkF m pc Ls (x :: st))) := by
  subst hp; exact Wp.step (fun _ k => XS.astore X.here hx rfl hd rfl hr hl k) K
theorem W.lstoreN (X : Stand p l e R s m args below meth c T locs cells slots) (hx : p.tables.exec = Jvm.exec) {k : Fin 4} {x : Int64} (pc' : Nat) (l' : Array Slot) (hd : decode c.code pc = .ok (.lstore_n k, 1)) (hl : storeLocals Ls k.val (.long x) = some l') (hp : pc + 1 = pc') (K : Wp p e s below Q kc ks (T.setTop (mkF m pc' l' st))) : Wp p e s below Q kc ks (T.setTop (mkF m pc Ls (.long x :: st))) := by
  subst hp; exact Wp.step (fun _ k => XS.lstoreN X.here hx rfl hd rfl hl k) K
theorem W.lstore (X : Stand p l e R s m args below meth c T locs cells slots) (hx : p.tables.exec = Jvm.exec) {k : Nat} {x : Int64} (pc' : Nat) (l' : Array Slot) (hd : decode c.code pc = .ok (.lstore k, 2)) (hl : storeLocals Ls k (.long x) = some l') (hp : pc + 2 = pc') (K : Wp p e s below Q kc ks (T.setTop (mkF m pc' l' st))) : Wp p e s below Q kc ks (T.setTop (mkF m pc Ls (.long x :: st))) := by
  subst hp; exact Wp.step (fun _ k => XS.lstore X.here hx rfl hd rfl hl k) K
theorem W.iinc (X : Stand p l e R s m args below meth c T locs cells slots) (hx : p.tables.exec = Jvm.exec) {k : Nat} {i : Int} {x : Int32} (pc' : Nat) (v : Int32) (l' : Array Slot) (hd : decode c.code pc = .ok (.iinc k i, 3)) (hv : Int32.ofInt i = v) (hl : Ls[k]? = some (.val (.int x))) (hl' : storeLocals Ls k (.int (x + v)) = some l') (hp : pc + 3 = pc') (K : Wp p e s below Q kc ks (T.setTop (mkF m pc' l' st))) : Wp p e s below Q kc ks (T.setTop (mkF m pc Ls st)) := by
  subst hp hv; exact Wp.step (fun _ k => XS.iinc X.here hx rfl hd hl hl' k) K
theorem W.iadd (X : Stand p l e R s m args below meth c T locs cells slots) (hx : p.tables.exec = Jvm.exec) {x y : Int32} (pc' : Nat) (hd : decode c.code pc = .ok (.iadd, 1)) (hp : pc + 1 = pc') (K : Wp p e s below Q kc ks (T.setTop (mkF m pc' Ls (.int (x + y) :: st)))) : Wp p e s below Q kc ks (T.setTop (mkF m pc Ls (.int y :: .int x :: st))) := by
  subst hp; exact Wp.step (fun _ k => XS.iadd X.here hx rfl hd rfl k) K
theorem W.ladd (X : Stand p l e R s m args below meth c T locs cells slots) (hx : p.tables.exec = Jvm.exec) {x y : Int64} (pc' : Nat) (hd : decode c.code pc = .ok (.ladd, 1)) (hp : pc + 1 = pc') (K : Wp p e s below Q kc ks (T.setTop (mkF m pc' Ls (.long (x + y) :: st)))) : Wp p e s below Q kc ks (T.setTop (mkF m pc Ls (.long y :: .long x :: st))) := by
  subst hp; exact Wp.step (fun _ k => XS.ladd X.here hx rfl hd rfl k) K
theorem W.isub (X : Stand p l e R s m args below meth c T locs cells slots) (hx : p.tables.exec = Jvm.exec) {x y : Int32} (pc' : Nat) (hd : decode c.code pc = .ok (.isub, 1)) (hp : pc + 1 = pc') (K : Wp p e s below Q kc ks (T.setTop (mkF m pc' Ls (.int (x - y) :: st)))) : Wp p e s below Q kc ks (T.setTop (mkF m pc Ls (.int y :: .int x :: st))) := by
  subst hp; exact Wp.step (fun _ k => XS.isub X.here hx rfl hd rfl k) K
theorem W.lsub (X : Stand p l e R s m args below meth c T locs cells slots) (hx : p.tables.exec = Jvm.exec) {x y : Int64} (pc' : Nat) (hd : decode c.code pc = .ok (.lsub, 1)) (hp : pc + 1 = pc') (K : Wp p e s below Q kc ks (T.setTop (mkF m pc' Ls (.long (x - y) :: st)))) : Wp p e s below Q kc ks (T.setTop (mkF m pc Ls (.long y :: .long x :: st))) := by
  subst hp; exact Wp.step (fun _ k => XS.lsub X.here hx rfl hd rfl k) K
theorem W.imul (X : Stand p l e R s m args below meth c T locs cells slots) (hx : p.tables.exec = Jvm.exec) {x y : Int32} (pc' : Nat) (hd : decode c.code pc = .ok (.imul, 1)) (hp : pc + 1 = pc') (K : Wp p e s below Q kc ks (T.setTop (mkF m pc' Ls (.int (x * y) :: st)))) : Wp p e s below Q kc ks (T.setTop (mkF m pc Ls (.int y :: .int x :: st))) := by
  subst hp; exact Wp.step (fun _ k => XS.imul X.here hx rfl hd rfl k) K
theorem W.lmul (X : Stand p l e R s m args below meth c T locs cells slots) (hx : p.tables.exec = Jvm.exec) {x y : Int64} (pc' : Nat) (hd : decode c.code pc = .ok (.lmul, 1)) (hp : pc + 1 = pc') (K : Wp p e s below Q kc ks (T.setTop (mkF m pc' Ls (.long (x * y) :: st)))) : Wp p e s below Q kc ks (T.setTop (mkF m pc Ls (.long y :: .long x :: st))) := by
  subst hp; exact Wp.step (fun _ k => XS.lmul X.here hx rfl hd rfl k) K
theorem W.iand (X : Stand p l e R s m args below meth c T locs cells slots) (hx : p.tables.exec = Jvm.exec) {x y : Int32} (pc' : Nat) (hd : decode c.code pc = .ok (.iand, 1)) (hp : pc + 1 = pc') (K : Wp p e s below Q kc ks (T.setTop (mkF m pc' Ls (.int (x &&& y) :: st)))) : Wp p e s below Q kc ks (T.setTop (mkF m pc Ls (.int y :: .int x :: st))) := by
  subst hp; exact Wp.step (fun _ k => XS.iand X.here hx rfl hd rfl k) K
theorem W.land (X : Stand p l e R s m args below meth c T locs cells slots) (hx : p.tables.exec = Jvm.exec) {x y : Int64} (pc' : Nat) (hd : decode c.code pc = .ok (.land, 1)) (hp : pc + 1 = pc') (K : Wp p e s below Q kc ks (T.setTop (mkF m pc' Ls (.long (x &&& y) :: st)))) : Wp p e s below Q kc ks (T.setTop (mkF m pc Ls (.long y :: .long x :: st))) := by
  subst hp; exact Wp.step (fun _ k => XS.land X.here hx rfl hd rfl k) K
theorem W.ior (X : Stand p l e R s m args below meth c T locs cells slots) (hx : p.tables.exec = Jvm.exec) {x y : Int32} (pc' : Nat) (hd : decode c.code pc = .ok (.ior, 1)) (hp : pc + 1 = pc') (K : Wp p e s below Q kc ks (T.setTop (mkF m pc' Ls (.int (x ||| y) :: st)))) : Wp p e s below Q kc ks (T.setTop (mkF m pc Ls (.int y :: .int x :: st))) := by
  subst hp; exact Wp.step (fun _ k => XS.ior X.here hx rfl hd rfl k) K
theorem W.lor (X : Stand p l e R s m args below meth c T locs cells slots) (hx : p.tables.exec = Jvm.exec) {x y : Int64} (pc' : Nat) (hd : decode c.code pc = .ok (.lor, 1)) (hp : pc + 1 = pc') (K : Wp p e s below Q kc ks (T.setTop (mkF m pc' Ls (.long (x ||| y) :: st)))) : Wp p e s below Q kc ks (T.setTop (mkF m pc Ls (.long y :: .long x :: st))) := by
  subst hp; exact Wp.step (fun _ k => XS.lor X.here hx rfl hd rfl k) K
theorem W.ixor (X : Stand p l e R s m args below meth c T locs cells slots) (hx : p.tables.exec = Jvm.exec) {x y : Int32} (pc' : Nat) (hd : decode c.code pc = .ok (.ixor, 1)) (hp : pc + 1 = pc') (K : Wp p e s below Q kc ks (T.setTop (mkF m pc' Ls (.int (x ^^^ y) :: st)))) : Wp p e s below Q kc ks (T.setTop (mkF m pc Ls (.int y :: .int x :: st))) := by
  subst hp; exact Wp.step (fun _ k => XS.ixor X.here hx rfl hd rfl k) K
theorem W.lxor (X : Stand p l e R s m args below meth c T locs cells slots) (hx : p.tables.exec = Jvm.exec) {x y : Int64} (pc' : Nat) (hd : decode c.code pc = .ok (.lxor, 1)) (hp : pc + 1 = pc') (K : Wp p e s below Q kc ks (T.setTop (mkF m pc' Ls (.long (x ^^^ y) :: st)))) : Wp p e s below Q kc ks (T.setTop (mkF m pc Ls (.long y :: .long x :: st))) := by
  subst hp; exact Wp.step (fun _ k => XS.lxor X.here hx rfl hd rfl k) K
theorem W.ishl (X : Stand p l e R s m args below meth c T locs cells slots) (hx : p.tables.exec = Jvm.exec) {x y : Int32} (pc' : Nat) (hd : decode c.code pc = .ok (.ishl, 1)) (hp : pc + 1 = pc') (K : Wp p e s below Q kc ks (T.setTop (mkF m pc' Ls (.int (x <<< (y &&& 31)) :: st)))) : Wp p e s below Q kc ks (T.setTop (mkF m pc Ls (.int y :: .int x :: st))) := by
  subst hp; exact Wp.step (fun _ k => XS.ishl X.here hx rfl hd rfl k) K
theorem W.ishr (X : Stand p l e R s m args below meth c T locs cells slots) (hx : p.tables.exec = Jvm.exec) {x y : Int32} (pc' : Nat) (hd : decode c.code pc = .ok (.ishr, 1)) (hp : pc + 1 = pc') (K : Wp p e s below Q kc ks (T.setTop (mkF m pc' Ls (.int (x >>> (y &&& 31)) :: st)))) : Wp p e s below Q kc ks (T.setTop (mkF m pc Ls (.int y :: .int x :: st))) := by
  subst hp; exact Wp.step (fun _ k => XS.ishr X.here hx rfl hd rfl k) K
theorem W.iushr (X : Stand p l e R s m args below meth c T locs cells slots) (hx : p.tables.exec = Jvm.exec) {x y : Int32} (pc' : Nat) (hd : decode c.code pc = .ok (.iushr, 1)) (hp : pc + 1 = pc') (K : Wp p e s below Q kc ks (T.setTop (mkF m pc' Ls (.int ((x.toUInt32 >>> (y &&& 31).toUInt32).toInt32) :: st)))) : Wp p e s below Q kc ks (T.setTop (mkF m pc Ls (.int y :: .int x :: st))) := by
  subst hp; exact Wp.step (fun _ k => XS.iushr X.here hx rfl hd rfl k) K
theorem W.lshl (X : Stand p l e R s m args below meth c T locs cells slots) (hx : p.tables.exec = Jvm.exec) {x : Int64} {y : Int32} (pc' : Nat) (hd : decode c.code pc = .ok (.lshl, 1)) (hp : pc + 1 = pc') (K : Wp p e s below Q kc ks (T.setTop (mkF m pc' Ls (.long (x <<< (y &&& 0x3f).toInt64) :: st)))) : Wp p e s below Q kc ks (T.setTop (mkF m pc Ls (.int y :: .long x :: st))) := by
  subst hp; exact Wp.step (fun _ k => XS.lshl X.here hx rfl hd rfl k) K
theorem W.lshr (X : Stand p l e R s m args below meth c T locs cells slots) (hx : p.tables.exec = Jvm.exec) {x : Int64} {y : Int32} (pc' : Nat) (hd : decode c.code pc = .ok (.lshr, 1)) (hp : pc + 1 = pc') (K : Wp p e s below Q kc ks (T.setTop (mkF m pc' Ls (.long (x >>> (y &&& 0x3f).toInt64) :: st)))) : Wp p e s below Q kc ks (T.setTop (mkF m pc Ls (.int y :: .long x :: st))) := by
  subst hp; exact Wp.step (fun _ k => XS.lshr X.here hx rfl hd rfl k) K
theorem W.lushr (X : Stand p l e R s m args below meth c T locs cells slots) (hx : p.tables.exec = Jvm.exec) {x : Int64} {y : Int32} (pc' : Nat) (hd : decode c.code pc = .ok (.lushr, 1)) (hp : pc + 1 = pc') (K : Wp p e s below Q kc ks (T.setTop (mkF m pc' Ls (.long ((x.toUInt64 >>> (y &&& 0x3f).toInt64.toUInt64).toInt64) :: st)))) : Wp p e s below Q kc ks (T.setTop (mkF m pc Ls (.int y :: .long x :: st))) := by
  subst hp; exact Wp.step (fun _ k => XS.lushr X.here hx rfl hd rfl k) K
theorem W.lcmp (X : Stand p l e R s m args below meth c T locs cells slots) (hx : p.tables.exec = Jvm.exec) {x y : Int64} (pc' : Nat) (hd : decode c.code pc = .ok (.lcmp, 1)) (hp : pc + 1 = pc') (K : Wp p e s below Q kc ks (T.setTop (mkF m pc' Ls (.int (lcmpW x y) :: st)))) : Wp p e s below Q kc ks (T.setTop (mkF m pc Ls (.long y :: .long x :: st))) := by
  subst hp; exact Wp.step (fun _ k => XS.lcmp X.here hx rfl hd rfl k) K
theorem W.irem (X : Stand p l e R s m args below meth c T locs cells slots) (hx : p.tables.exec = Jvm.exec) {x y : Int32} (pc' : Nat) (hd : decode c.code pc = .ok (.irem, 1)) (hy : y ≠ 0) (hp : pc + 1 = pc') (K : Wp p e s below Q kc ks (T.setTop (mkF m pc' Ls (.int (x % y) :: st)))) : Wp p e s below Q kc ks (T.setTop (mkF m pc Ls (.int y :: .int x :: st))) := by
  subst hp; exact Wp.step (fun _ k => iremM X hx (g := mkF m pc Ls (.int y :: .int x :: st)) rfl hd rfl hy k) K
theorem W.idiv (X : Stand p l e R s m args below meth c T locs cells slots) (hx : p.tables.exec = Jvm.exec) {x y : Int32} (pc' : Nat) (hd : decode c.code pc = .ok (.idiv, 1)) (hy : y ≠ 0) (hp : pc + 1 = pc') (K : Wp p e s below Q kc ks (T.setTop (mkF m pc' Ls (.int (x / y) :: st)))) : Wp p e s below Q kc ks (T.setTop (mkF m pc Ls (.int y :: .int x :: st))) := by
  subst hp; exact Wp.step (fun _ k => XS.idiv X.here hx rfl hd rfl hy k) K
theorem W.ineg (X : Stand p l e R s m args below meth c T locs cells slots) (hx : p.tables.exec = Jvm.exec) {x : Int32} (pc' : Nat) (hd : decode c.code pc = .ok (.ineg, 1)) (hp : pc + 1 = pc') (K : Wp p e s below Q kc ks (T.setTop (mkF m pc' Ls (.int (-x) :: st)))) : Wp p e s below Q kc ks (T.setTop (mkF m pc Ls (.int x :: st))) := by
  subst hp; exact Wp.step (fun _ k => XS.ineg X.here hx rfl hd rfl k) K
theorem W.lneg (X : Stand p l e R s m args below meth c T locs cells slots) (hx : p.tables.exec = Jvm.exec) {x : Int64} (pc' : Nat) (hd : decode c.code pc = .ok (.lneg, 1)) (hp : pc + 1 = pc') (K : Wp p e s below Q kc ks (T.setTop (mkF m pc' Ls (.long (-x) :: st)))) : Wp p e s below Q kc ks (T.setTop (mkF m pc Ls (.long x :: st))) := by
  subst hp; exact Wp.step (fun _ k => XS.lneg X.here hx rfl hd rfl k) K
theorem W.i2b (X : Stand p l e R s m args below meth c T locs cells slots) (hx : p.tables.exec = Jvm.exec) {x : Int32} (pc' : Nat) (hd : decode c.code pc = .ok (.i2b, 1)) (hp : pc + 1 = pc') (K : Wp p e s below Q kc ks (T.setTop (mkF m pc' Ls (.int x.toInt8.toInt32 :: st)))) : Wp p e s below Q kc ks (T.setTop (mkF m pc Ls (.int x :: st))) := by
  subst hp; exact Wp.step (fun _ k => XS.i2b X.here hx rfl hd rfl k) K
theorem W.i2c (X : Stand p l e R s m args below meth c T locs cells slots) (hx : p.tables.exec = Jvm.exec) {x : Int32} (pc' : Nat) (hd : decode c.code pc = .ok (.i2c, 1)) (hp : pc + 1 = pc') (K : Wp p e s below Q kc ks (T.setTop (mkF m pc' Ls (.int x.toUInt32.toUInt16.toUInt32.toInt32 :: st)))) : Wp p e s below Q kc ks (T.setTop (mkF m pc Ls (.int x :: st))) := by
  subst hp; exact Wp.step (fun _ k => XS.i2c X.here hx rfl hd rfl k) K
theorem W.i2s (X : Stand p l e R s m args below meth c T locs cells slots) (hx : p.tables.exec = Jvm.exec) {x : Int32} (pc' : Nat) (hd : decode c.code pc = .ok (.i2s, 1)) (hp : pc + 1 = pc') (K : Wp p e s below Q kc ks (T.setTop (mkF m pc' Ls (.int x.toInt16.toInt32 :: st)))) : Wp p e s below Q kc ks (T.setTop (mkF m pc Ls (.int x :: st))) := by
  subst hp; exact Wp.step (fun _ k => XS.i2s X.here hx rfl hd rfl k) K
theorem W.i2l (X : Stand p l e R s m args below meth c T locs cells slots) (hx : p.tables.exec = Jvm.exec) {x : Int32} (pc' : Nat) (hd : decode c.code pc = .ok (.i2l, 1)) (hp : pc + 1 = pc') (K : Wp p e s below Q kc ks (T.setTop (mkF m pc' Ls (.long x.toInt64 :: st)))) : Wp p e s below Q kc ks (T.setTop (mkF m pc Ls (.int x :: st))) := by
  subst hp; exact Wp.step (fun _ k => XS.i2l X.here hx rfl hd rfl k) K
theorem W.l2i (X : Stand p l e R s m args below meth c T locs cells slots) (hx : p.tables.exec = Jvm.exec) {x : Int64} (pc' : Nat) (hd : decode c.code pc = .ok (.l2i, 1)) (hp : pc + 1 = pc') (K : Wp p e s below Q kc ks (T.setTop (mkF m pc' Ls (.int x.toInt32 :: st)))) : Wp p e s below Q kc ks (T.setTop (mkF m pc Ls (.long x :: st))) := by
  subst hp; exact Wp.step (fun _ k => XS.l2i X.here hx rfl hd rfl k) K
theorem W.dup (X : Stand p l e R s m args below meth c T locs cells slots) (hx : p.tables.exec = Jvm.exec) {x : Value} (pc' : Nat) (hd : decode c.code pc = .ok (.dup, 1)) (hc : x.category = 1) (hp : pc + 1 = pc') (K : Wp p e s below Q kc ks (T.setTop (mkF m pc' Ls (x :: x :: st)))) : Wp p e s below Q kc ks (T.setTop (mkF m pc Ls (x :: st))) := by
  subst hp; exact Wp.step (fun _ k => XS.dup X.here hx rfl hd rfl hc k) K
theorem W.pop1 (X : Stand p l e R s m args below meth c T locs cells slots) (hx : p.tables.exec = Jvm.exec) {x : Value} (pc' : Nat) (hd : decode c.code pc = .ok (.pop, 1)) (hc : x.category = 1) (hp : pc + 1 = pc') (K : Wp p e s below Q kc ks (T.setTop (mkF m pc' Ls st))) : Wp p e s below Q kc ks (T.setTop (mkF m pc Ls (x :: st))) := by
  subst hp; exact Wp.step (fun _ k => XS.pop X.here hx rfl hd rfl hc k) K
theorem W.dup2 (X : Stand p l e R s m args below meth c T locs cells slots) (hx : p.tables.exec = Jvm.exec) {x y : Value} (pc' : Nat) (hd : decode c.code pc = .ok (.dup2, 1)) (hc : x.category = 1) (hc' : y.category = 1) (hp : pc + 1 = pc') (K : Wp p e s below Q kc ks (T.setTop (mkF m pc' Ls (x :: y :: x :: y :: st)))) : Wp p e s below Q kc ks (T.setTop (mkF m pc Ls (x :: y :: st))) := by
  subst hp; exact Wp.step (fun _ k => XT.dup2 X.here hx rfl hd rfl hc hc' k) K
theorem W.dupX1 (X : Stand p l e R s m args below meth c T locs cells slots) (hx : p.tables.exec = Jvm.exec) {x y : Value} (pc' : Nat) (hd : decode c.code pc = .ok (.dup_x1, 1)) (hc : x.category = 1) (hc' : y.category = 1) (hp : pc + 1 = pc') (K : Wp p e s below Q kc ks (T.setTop (mkF m pc' Ls (x :: y :: x :: st)))) : Wp p e s below Q kc ks (T.setTop (mkF m pc Ls (x :: y :: st))) := by
  subst hp; exact Wp.step (fun _ k => XS.dupX1 X.here hx rfl hd rfl hc hc' k) K
theorem W.goto (X : Stand p l e R s m args below meth c T locs cells slots) (hx : p.tables.exec = Jvm.exec) {o : Int} (pc' : Nat) (hd : decode c.code pc = .ok (.goto o, 3)) (ho : 0 ≤ (pc : Int) + o) (hp : ((pc : Int) + o).toNat = pc') (K : Wp p e s below Q kc ks (T.setTop (mkF m pc' Ls st))) : Wp p e s below Q kc ks (T.setTop (mkF m pc Ls st)) :=
  Wp.step (fun _ k => XS.goto X.here hx rfl rfl hd ho hp k) K
theorem W.icmp (X : Stand p l e R s m args below meth c T locs cells slots) (hx : p.tables.exec = Jvm.exec) {cd : ClassFile.Cond} {o : Int} {x y : Int32} (pcT pcF : Nat) (hd : decode c.code pc = .ok (.if_icmp cd o, 3)) (ho : 0 ≤ (pc : Int) + o) (hp : ((pc : Int) + o).toNat = pcT) (hq : pc + 3 = pcF) (KT : if_icmp.holds cd x y = true → Wp p e s below Q kc ks (T.setTop (mkF m pcT Ls st))) (KF : if_icmp.holds cd x y = false → Wp p e s below Q kc ks (T.setTop (mkF m pcF Ls st))) : Wp p e s below Q kc ks (T.setTop (mkF m pc Ls (.int y :: .int x :: st))) := by
  subst hq
  cases hh : if_icmp.holds cd x y
  · exact Wp.step (fun _ k => XS.icmpNo X.here hx rfl hd rfl hh k) (KF hh)
  · exact Wp.step (fun _ k => XS.icmpYes X.here hx rfl rfl hd rfl hh ho hp k) (KT hh)
theorem W.ifc (X : Stand p l e R s m args below meth c T locs cells slots) (hx : p.tables.exec = Jvm.exec) {cd : ClassFile.Cond} {o : Int} {x : Int32} (pcT pcF : Nat) (hd : decode c.code pc = .ok (.ifCond cd o, 3)) (ho : 0 ≤ (pc : Int) + o) (hp : ((pc : Int) + o).toNat = pcT) (hq : pc + 3 = pcF) (KT : if_icmp.holds cd x 0 = true → Wp p e s below Q kc ks (T.setTop (mkF m pcT Ls st))) (KF : if_icmp.holds cd x 0 = false → Wp p e s below Q kc ks (T.setTop (mkF m pcF Ls st))) : Wp p e s below Q kc ks (T.setTop (mkF m pc Ls (.int x :: st))) := by
  subst hq
  rw [← if0] at KT KF
  cases hh : ifCond.holds cd x
  · exact Wp.step (fun _ k => XS.ifNo X.here hx rfl hd rfl hh k) (KF hh)
  · exact Wp.step (fun _ k => XS.ifYes X.here hx rfl rfl hd rfl hh ho hp k) (KT hh)
theorem W.icmpEq (X : Stand p l e R s m args below meth c T locs cells slots) (hx : p.tables.exec = Jvm.exec) {o : Int} {x y : Int32} (pcT pcF : Nat) (hd : decode c.code pc = .ok (.if_icmp .eq o, 3)) (ho : 0 ≤ (pc : Int) + o) (hp : ((pc : Int) + o).toNat = pcT) (hq : pc + 3 = pcF) (KT : x = y → Wp p e s below Q kc ks (T.setTop (mkF m pcT Ls st))) (KF : ¬ x = y → Wp p e s below Q kc ks (T.setTop (mkF m pcF Ls st))) : Wp p e s below Q kc ks (T.setTop (mkF m pc Ls (.int y :: .int x :: st))) :=
  W.icmp X hx pcT pcF hd ho hp hq (fun hh => KT (Decidable.byContradiction fun q => by rw [(feq q).1] at hh; cases hh)) (fun hh => KF (fun q => by rw [(teq q).1] at hh; cases hh))
theorem W.ifEq (X : Stand p l e R s m args below meth c T locs cells slots) (hx : p.tables.exec = Jvm.exec) {o : Int} {x : Int32} (pcT pcF : Nat) (hd : decode c.code pc = .ok (.ifCond .eq o, 3)) (ho : 0 ≤ (pc : Int) + o) (hp : ((pc : Int) + o).toNat = pcT) (hq : pc + 3 = pcF) (KT : x = 0 → Wp p e s below Q kc ks (T.setTop (mkF m pcT Ls st))) (KF : ¬ x = 0 → Wp p e s below Q kc ks (T.setTop (mkF m pcF Ls st))) : Wp p e s below Q kc ks (T.setTop (mkF m pc Ls (.int x :: st))) :=
  W.ifc X hx pcT pcF hd ho hp hq (fun hh => KT (Decidable.byContradiction fun q => by rw [(feq q).1] at hh; cases hh)) (fun hh => KF (fun q => by rw [(teq q).1] at hh; cases hh))
theorem W.icmpNe (X : Stand p l e R s m args below meth c T locs cells slots) (hx : p.tables.exec = Jvm.exec) {o : Int} {x y : Int32} (pcT pcF : Nat) (hd : decode c.code pc = .ok (.if_icmp .ne o, 3)) (ho : 0 ≤ (pc : Int) + o) (hp : ((pc : Int) + o).toNat = pcT) (hq : pc + 3 = pcF) (KT : ¬ x = y → Wp p e s below Q kc ks (T.setTop (mkF m pcT Ls st))) (KF : x = y → Wp p e s below Q kc ks (T.setTop (mkF m pcF Ls st))) : Wp p e s below Q kc ks (T.setTop (mkF m pc Ls (.int y :: .int x :: st))) :=
  W.icmp X hx pcT pcF hd ho hp hq (fun hh => KT (fun q => by rw [(teq q).2] at hh; cases hh)) (fun hh => KF (Decidable.byContradiction fun q => by rw [(feq q).2] at hh; cases hh))
theorem W.ifNe (X : Stand p l e R s m args below meth c T locs cells slots) (hx : p.tables.exec = Jvm.exec) {o : Int} {x : Int32} (pcT pcF : Nat) (hd : decode c.code pc = .ok (.ifCond .ne o, 3)) (ho : 0 ≤ (pc : Int) + o) (hp : ((pc : Int) + o).toNat = pcT) (hq : pc + 3 = pcF) (KT : ¬ x = 0 → Wp p e s below Q kc ks (T.setTop (mkF m pcT Ls st))) (KF : x = 0 → Wp p e s below Q kc ks (T.setTop (mkF m pcF Ls st))) : Wp p e s below Q kc ks (T.setTop (mkF m pc Ls (.int x :: st))) :=
  W.ifc X hx pcT pcF hd ho hp hq (fun hh => KT (fun q => by rw [(teq q).2] at hh; cases hh)) (fun hh => KF (Decidable.byContradiction fun q => by rw [(feq q).2] at hh; cases hh))
theorem W.icmpLt (X : Stand p l e R s m args below meth c T locs cells slots) (hx : p.tables.exec = Jvm.exec) {o : Int} {x y : Int32} (pcT pcF : Nat) (hd : decode c.code pc = .ok (.if_icmp .lt o, 3)) (ho : 0 ≤ (pc : Int) + o) (hp : ((pc : Int) + o).toNat = pcT) (hq : pc + 3 = pcF) (KT : x < y → Wp p e s below Q kc ks (T.setTop (mkF m pcT Ls st))) (KF : ¬ x < y → Wp p e s below Q kc ks (T.setTop (mkF m pcF Ls st))) : Wp p e s below Q kc ks (T.setTop (mkF m pc Ls (.int y :: .int x :: st))) :=
  W.icmp X hx pcT pcF hd ho hp hq (fun hh => KT (Decidable.byContradiction fun q => by rw [(flt q).1] at hh; cases hh)) (fun hh => KF (fun q => by rw [(tlt q).1] at hh; cases hh))
theorem W.ifLt (X : Stand p l e R s m args below meth c T locs cells slots) (hx : p.tables.exec = Jvm.exec) {o : Int} {x : Int32} (pcT pcF : Nat) (hd : decode c.code pc = .ok (.ifCond .lt o, 3)) (ho : 0 ≤ (pc : Int) + o) (hp : ((pc : Int) + o).toNat = pcT) (hq : pc + 3 = pcF) (KT : x < 0 → Wp p e s below Q kc ks (T.setTop (mkF m pcT Ls st))) (KF : ¬ x < 0 → Wp p e s below Q kc ks (T.setTop (mkF m pcF Ls st))) : Wp p e s below Q kc ks (T.setTop (mkF m pc Ls (.int x :: st))) :=
  W.ifc X hx pcT pcF hd ho hp hq (fun hh => KT (Decidable.byContradiction fun q => by rw [(flt q).1] at hh; cases hh)) (fun hh => KF (fun q => by rw [(tlt q).1] at hh; cases hh))
theorem W.icmpGe (X : Stand p l e R s m args below meth c T locs cells slots) (hx : p.tables.exec = Jvm.exec) {o : Int} {x y : Int32} (pcT pcF : Nat) (hd : decode c.code pc = .ok (.if_icmp .ge o, 3)) (ho : 0 ≤ (pc : Int) + o) (hp : ((pc : Int) + o).toNat = pcT) (hq : pc + 3 = pcF) (KT : ¬ x < y → Wp p e s below Q kc ks (T.setTop (mkF m pcT Ls st))) (KF : x < y → Wp p e s below Q kc ks (T.setTop (mkF m pcF Ls st))) : Wp p e s below Q kc ks (T.setTop (mkF m pc Ls (.int y :: .int x :: st))) :=
  W.icmp X hx pcT pcF hd ho hp hq (fun hh => KT (fun q => by rw [(tlt q).2.1] at hh; cases hh)) (fun hh => KF (Decidable.byContradiction fun q => by rw [(flt q).2.1] at hh; cases hh))
theorem W.ifGe (X : Stand p l e R s m args below meth c T locs cells slots) (hx : p.tables.exec = Jvm.exec) {o : Int} {x : Int32} (pcT pcF : Nat) (hd : decode c.code pc = .ok (.ifCond .ge o, 3)) (ho : 0 ≤ (pc : Int) + o) (hp : ((pc : Int) + o).toNat = pcT) (hq : pc + 3 = pcF) (KT : ¬ x < 0 → Wp p e s below Q kc ks (T.setTop (mkF m pcT Ls st))) (KF : x < 0 → Wp p e s below Q kc ks (T.setTop (mkF m pcF Ls st))) : Wp p e s below Q kc ks (T.setTop (mkF m pc Ls (.int x :: st))) :=
  W.ifc X hx pcT pcF hd ho hp hq (fun hh => KT (fun q => by rw [(tlt q).2.1] at hh; cases hh)) (fun hh => KF (Decidable.byContradiction fun q => by rw [(flt q).2.1] at hh; cases hh))
theorem W.icmpGt (X : Stand p l e R s m args below meth c T locs cells slots) (hx : p.tables.exec = Jvm.exec) {o : Int} {x y : Int32} (pcT pcF : Nat) (hd : decode c.code pc = .ok (.if_icmp .gt o, 3)) (ho : 0 ≤ (pc : Int) + o) (hp : ((pc : Int) + o).toNat = pcT) (hq : pc + 3 = pcF) (KT : y < x → Wp p e s below Q kc ks (T.setTop (mkF m pcT Ls st))) (KF : ¬ y < x → Wp p e s below Q kc ks (T.setTop (mkF m pcF Ls st))) : Wp p e s below Q kc ks (T.setTop (mkF m pc Ls (.int y :: .int x :: st))) :=
  W.icmp X hx pcT pcF hd ho hp hq (fun hh => KT (Decidable.byContradiction fun q => by rw [(flt q).2.2.1] at hh; cases hh)) (fun hh => KF (fun q => by rw [(tlt q).2.2.1] at hh; cases hh))
theorem W.ifGt (X : Stand p l e R s m args below meth c T locs cells slots) (hx : p.tables.exec = Jvm.exec) {o : Int} {x : Int32} (pcT pcF : Nat) (hd : decode c.code pc = .ok (.ifCond .gt o, 3)) (ho : 0 ≤ (pc : Int) + o) (hp : ((pc : Int) + o).toNat = pcT) (hq : pc + 3 = pcF) (KT : 0 < x → Wp p e s below Q kc ks (T.setTop (mkF m pcT Ls st))) (KF : ¬ 0 < x → Wp p e s below Q kc ks (T.setTop (mkF m pcF Ls st))) : Wp p e s below Q kc ks (T.setTop (mkF m pc Ls (.int x :: st))) :=
  W.ifc X hx pcT pcF hd ho hp hq (fun hh => KT (Decidable.byContradiction fun q => by rw [(flt q).2.2.1] at hh; cases hh)) (fun hh => KF (fun q => by rw [(tlt q).2.2.1] at hh; cases hh))
theorem W.icmpLe (X : Stand p l e R s m args below meth c T locs cells slots) (hx : p.tables.exec = Jvm.exec) {o : Int} {x y : Int32} (pcT pcF : Nat) (hd : decode c.code pc = .ok (.if_icmp .le o, 3)) (ho : 0 ≤ (pc : Int) + o) (hp : ((pc : Int) + o).toNat = pcT) (hq : pc + 3 = pcF) (KT : ¬ y < x → Wp p e s below Q kc ks (T.setTop (mkF m pcT Ls st))) (KF : y < x → Wp p e s below Q kc ks (T.setTop (mkF m pcF Ls st))) : Wp p e s below Q kc ks (T.setTop (mkF m pc Ls (.int y :: .int x :: st))) :=
  W.icmp X hx pcT pcF hd ho hp hq (fun hh => KT (fun q => by rw [(tlt q).2.2.2] at hh; cases hh)) (fun hh => KF (Decidable.byContradiction fun q => by rw [(flt q).2.2.2] at hh; cases hh))
theorem W.ifLe (X : Stand p l e R s m args below meth c T locs cells slots) (hx : p.tables.exec = Jvm.exec) {o : Int} {x : Int32} (pcT pcF : Nat) (hd : decode c.code pc = .ok (.ifCond .le o, 3)) (ho : 0 ≤ (pc : Int) + o) (hp : ((pc : Int) + o).toNat = pcT) (hq : pc + 3 = pcF) (KT : ¬ 0 < x → Wp p e s below Q kc ks (T.setTop (mkF m pcT Ls st))) (KF : 0 < x → Wp p e s below Q kc ks (T.setTop (mkF m pcF Ls st))) : Wp p e s below Q kc ks (T.setTop (mkF m pc Ls (.int x :: st))) :=
  W.ifc X hx pcT pcF hd ho hp hq (fun hh => KT (fun q => by rw [(tlt q).2.2.2] at hh; cases hh)) (fun hh => KF (Decidable.byContradiction fun q => by rw [(flt q).2.2.2] at hh; cases hh))
theorem W.lifEq (X : Stand p l e R s m args below meth c T locs cells slots) (hx : p.tables.exec = Jvm.exec) {o : Int} {x y : Int64} (pcT pcF : Nat) (hd : decode c.code pc = .ok (.ifCond .eq o, 3)) (ho : 0 ≤ (pc : Int) + o) (hp : ((pc : Int) + o).toNat = pcT) (hq : pc + 3 = pcF) (KT : x = y → Wp p e s below Q kc ks (T.setTop (mkF m pcT Ls st))) (KF : ¬ x = y → Wp p e s below Q kc ks (T.setTop (mkF m pcF Ls st))) : Wp p e s below Q kc ks (T.setTop (mkF m pc Ls (.int (lcmpW x y) :: st))) :=
  W.ifEq X hx pcT pcF hd ho hp hq (fun q => KT ((lw_eq x y).mp q)) (fun q => KF (fun r => q ((lw_eq x y).mpr r)))
theorem W.lifNe (X : Stand p l e R s m args below meth c T locs cells slots) (hx : p.tables.exec = Jvm.exec) {o : Int} {x y : Int64} (pcT pcF : Nat) (hd : decode c.code pc = .ok (.ifCond .ne o, 3)) (ho : 0 ≤ (pc : Int) + o) (hp : ((pc : Int) + o).toNat = pcT) (hq : pc + 3 = pcF) (KT : ¬ x = y → Wp p e s below Q kc ks (T.setTop (mkF m pcT Ls st))) (KF : x = y → Wp p e s below Q kc ks (T.setTop (mkF m pcF Ls st))) : Wp p e s below Q kc ks (T.setTop (mkF m pc Ls (.int (lcmpW x y) :: st))) :=
  W.ifNe X hx pcT pcF hd ho hp hq (fun q => KT (fun r => q ((lw_eq x y).mpr r))) (fun q => KF ((lw_eq x y).mp q))
theorem W.lifLt (X : Stand p l e R s m args below meth c T locs cells slots) (hx : p.tables.exec = Jvm.exec) {o : Int} {x y : Int64} (pcT pcF : Nat) (hd : decode c.code pc = .ok (.ifCond .lt o, 3)) (ho : 0 ≤ (pc : Int) + o) (hp : ((pc : Int) + o).toNat = pcT) (hq : pc + 3 = pcF) (KT : x < y → Wp p e s below Q kc ks (T.setTop (mkF m pcT Ls st))) (KF : ¬ x < y → Wp p e s below Q kc ks (T.setTop (mkF m pcF Ls st))) : Wp p e s below Q kc ks (T.setTop (mkF m pc Ls (.int (lcmpW x y) :: st))) :=
  W.ifLt X hx pcT pcF hd ho hp hq (fun q => KT ((lw_lt x y).mp q)) (fun q => KF (fun r => q ((lw_lt x y).mpr r)))
theorem W.lifGe (X : Stand p l e R s m args below meth c T locs cells slots) (hx : p.tables.exec = Jvm.exec) {o : Int} {x y : Int64} (pcT pcF : Nat) (hd : decode c.code pc = .ok (.ifCond .ge o, 3)) (ho : 0 ≤ (pc : Int) + o) (hp : ((pc : Int) + o).toNat = pcT) (hq : pc + 3 = pcF) (KT : ¬ x < y → Wp p e s below Q kc ks (T.setTop (mkF m pcT Ls st))) (KF : x < y → Wp p e s below Q kc ks (T.setTop (mkF m pcF Ls st))) : Wp p e s below Q kc ks (T.setTop (mkF m pc Ls (.int (lcmpW x y) :: st))) :=
  W.ifGe X hx pcT pcF hd ho hp hq (fun q => KT (fun r => q ((lw_lt x y).mpr r))) (fun q => KF ((lw_lt x y).mp q))
theorem W.lifGt (X : Stand p l e R s m args below meth c T locs cells slots) (hx : p.tables.exec = Jvm.exec) {o : Int} {x y : Int64} (pcT pcF : Nat) (hd : decode c.code pc = .ok (.ifCond .gt o, 3)) (ho : 0 ≤ (pc : Int) + o) (hp : ((pc : Int) + o).toNat = pcT) (hq : pc + 3 = pcF) (KT : y < x → Wp p e s below Q kc ks (T.setTop (mkF m pcT Ls st))) (KF : ¬ y < x → Wp p e s below Q kc ks (T.setTop (mkF m pcF Ls st))) : Wp p e s below Q kc ks (T.setTop (mkF m pc Ls (.int (lcmpW x y) :: st))) :=
  W.ifGt X hx pcT pcF hd ho hp hq (fun q => KT ((lw_gt x y).mp q)) (fun q => KF (fun r => q ((lw_gt x y).mpr r)))
theorem W.lifLe (X : Stand p l e R s m args below meth c T locs cells slots) (hx : p.tables.exec = Jvm.exec) {o : Int} {x y : Int64} (pcT pcF : Nat) (hd : decode c.code pc = .ok (.ifCond .le o, 3)) (ho : 0 ≤ (pc : Int) + o) (hp : ((pc : Int) + o).toNat = pcT) (hq : pc + 3 = pcF) (KT : ¬ y < x → Wp p e s below Q kc ks (T.setTop (mkF m pcT Ls st))) (KF : y < x → Wp p e s below Q kc ks (T.setTop (mkF m pcF Ls st))) : Wp p e s below Q kc ks (T.setTop (mkF m pc Ls (.int (lcmpW x y) :: st))) :=
  W.ifLe X hx pcT pcF hd ho hp hq (fun q => KT (fun r => q ((lw_gt x y).mpr r))) (fun q => KF ((lw_gt x y).mp q))
theorem W.nonnullR (X : Stand p l e R s m args below meth c T locs cells slots) (hx : p.tables.exec = Jvm.exec) {o : Int} {b : Addr} (pcT : Nat) (hd : decode c.code pc = .ok (.ifnonnull o, 3)) (ho : 0 ≤ (pc : Int) + o) (hp : ((pc : Int) + o).toNat = pcT) (K : Wp p e s below Q kc ks (T.setTop (mkF m pcT Ls st))) : Wp p e s below Q kc ks (T.setTop (mkF m pc Ls (.ref b :: st))) :=
  Wp.step (fun _ k => XS.ifnonnullYes X.here hx rfl rfl hd rfl ho hp k) K
theorem W.nonnullN (X : Stand p l e R s m args below meth c T locs cells slots) (hx : p.tables.exec = Jvm.exec) {o : Int} (pc' : Nat) (hd : decode c.code pc = .ok (.ifnonnull o, 3)) (hp : pc + 3 = pc') (K : Wp p e s below Q kc ks (T.setTop (mkF m pc' Ls st))) : Wp p e s below Q kc ks (T.setTop (mkF m pc Ls (.null :: st))) := by
  subst hp; exact Wp.step (fun _ k => XS.ifnonnullNo X.here hx rfl hd rfl k) K
theorem W.nullN (X : Stand p l e R s m args below meth c T locs cells slots) (hx : p.tables.exec = Jvm.exec) {o : Int} (pcT : Nat) (hd : decode c.code pc = .ok (.ifnull o, 3)) (ho : 0 ≤ (pc : Int) + o) (hp : ((pc : Int) + o).toNat = pcT) (K : Wp p e s below Q kc ks (T.setTop (mkF m pcT Ls st))) : Wp p e s below Q kc ks (T.setTop (mkF m pc Ls (.null :: st))) :=
  Wp.step (fun _ k => XS.ifnullYes X.here hx rfl rfl hd rfl ho hp k) K
theorem W.nullR (X : Stand p l e R s m args below meth c T locs cells slots) (hx : p.tables.exec = Jvm.exec) {o : Int} {b : Addr} (pc' : Nat) (hd : decode c.code pc = .ok (.ifnull o, 3)) (hp : pc + 3 = pc') (K : Wp p e s below Q kc ks (T.setTop (mkF m pc' Ls st))) : Wp p e s below Q kc ks (T.setTop (mkF m pc Ls (.ref b :: st))) := by
  subst hp; exact Wp.step (fun _ k => XS.ifnullNo X.here hx rfl hd rfl k) K
theorem W.acmpE (X : Stand p l e R s m args below meth c T locs cells slots) (hx : p.tables.exec = Jvm.exec) {o : Int} {x y : Value} (pcT pcF : Nat) (h1 : x.isRef = true) (h2 : y.isRef = true) (hd : decode c.code pc = .ok (.if_acmp .eq o, 3)) (ho : 0 ≤ (pc : Int) + o) (hp : ((pc : Int) + o).toNat = pcT) (hq : pc + 3 = pcF) (KT : x = y → Wp p e s below Q kc ks (T.setTop (mkF m pcT Ls st))) (KF : ¬ x = y → Wp p e s below Q kc ks (T.setTop (mkF m pcF Ls st))) : Wp p e s below Q kc ks (T.setTop (mkF m pc Ls (y :: x :: st))) := by
  by_cases q : x = y
  · exact Wp.step (fun _ k => acmp X hx (g := mkF m pc Ls (y :: x :: st)) rfl h1 h2 rfl hd rfl (same := true) (by simp [q]) ho (pc' := pcT) (by simp [acV, hp]) k) (KT q)
  · exact Wp.step (fun _ k => acmp X hx (g := mkF m pc Ls (y :: x :: st)) rfl h1 h2 rfl hd rfl (same := false) (by simp [q]) ho (pc' := pcF) (by simp [acV, hq]) k) (KF q)
theorem W.acmpN (X : Stand p l e R s m args below meth c T locs cells slots) (hx : p.tables.exec = Jvm.exec) {o : Int} {x y : Value} (pcT pcF : Nat) (h1 : x.isRef = true) (h2 : y.isRef = true) (hd : decode c.code pc = .ok (.if_acmp .ne o, 3)) (ho : 0 ≤ (pc : Int) + o) (hp : ((pc : Int) + o).toNat = pcT) (hq : pc + 3 = pcF) (KT : ¬ x = y → Wp p e s below Q kc ks (T.setTop (mkF m pcT Ls st))) (KF : x = y → Wp p e s below Q kc ks (T.setTop (mkF m pcF Ls st))) : Wp p e s below Q kc ks (T.setTop (mkF m pc Ls (y :: x :: st))) := by
  by_cases q : x = y
  · exact Wp.step (fun _ k => acmp X hx (g := mkF m pc Ls (y :: x :: st)) rfl h1 h2 rfl hd rfl (same := true) (by simp [q]) ho (pc' := pcF) (by simp [acV, hq]) k) (KF q)
  · exact Wp.step (fun _ k => acmp X hx (g := mkF m pc Ls (y :: x :: st)) rfl h1 h2 rfl hd rfl (same := false) (by simp [q]) ho (pc' := pcT) (by simp [acV, hp]) k) (KT q)
theorem W.newarr (X : Stand p l e R s m args below meth c T locs cells slots) (hx : p.tables.exec = Jvm.exec) (hZ : Z.Warmed39 s.vm) {aty : ArrayType} {z : Int32} (pc' : Nat) (k cap : Nat) (w : (Jvm.Cond.arrayClass (newarray.typeOf aty)).before a0 Z = true) (eT : T.heap = h) (hd : decode c.code pc = .ok (.newarray aty, 2)) (hz : z.toInt = (k : Int)) (hcap : k ≤ cap) (hb : cap * 8 ≤ 536870912) (hc : cells + 1 ≤ R.cells) (hl : slots + cap ≤ R.slots) (hp : pc + 2 = pc')
    (K : ∀ T' h' a, a = h.size → Stand p l e R s m args below meth c T' locs (cells + 1) (slots + cap) → T'.heap = h' → Ext h h' → IArr Z h' a (newarray.typeOf aty) k (fun _ => defaultValue (newarray.typeOf aty)) → Wp p e s below Q kc ks (T'.setTop (mkF m pc' Ls (.ref a :: st)))) : Wp p e s below Q kc ks (T.setTop (mkF m pc Ls (.int z :: st))) := by
  subst hp
  obtain ⟨q1, q2⟩ := nat_of hz
  obtain ⟨T', h', cA, X', e', E, A, stp⟩ := newP X hx hZ w eT (g := mkF m pc Ls (.int z :: st)) rfl hd rfl q1 (cap := cap) (by omega) hb hc hl
  exact Wp.step stp (K T' h' _ rfl X' e' E (IArr.fresh A q2))
theorem IArr.inb {j : Int32} {i : Nat} {cl : Cell} (S : cl.slots.size = n) (hj : j.toInt = (i : Int)) (hi : i < n) : ¬ (j < 0 ∨ cl.slots.size ≤ j.toNatClampNeg) := by
  obtain ⟨q1, q2⟩ := nat_of hj
  rw [S, q2]; intro q; rcases q with q | q
  · exact q1 q
  · omega
theorem W.arrlen (X : Stand p l e R s m args below meth c T locs cells slots) (hx : p.tables.exec = Jvm.exec) (hZ : Z.Warmed39 s.vm) (pc' : Nat) (eT : T.heap = h) (A : IArr Z h a ty n f) (v : Int32) (hv : n.toInt32 = v) (hd : decode c.code pc = .ok (.arraylength, 1)) (hp : pc + 1 = pc') (K : Wp p e s below Q kc ks (T.setTop (mkF m pc' Ls (.int v :: st)))) : Wp p e s below Q kc ks (T.setTop (mkF m pc Ls (.ref a :: st))) := by
  subst hp hv
  obtain ⟨cl, A, S, H⟩ := A
  subst S
  exact Wp.step (fun t k => X.arraylength hx (by rw [eT]; exact A.1) (State.isArrayOf_alike hZ.alike A.2.1) (g := mkF m pc Ls (.ref a :: st)) rfl rfl hd t k) K
theorem W.iaload (X : Stand p l e R s m args below meth c T locs cells slots) (hx : p.tables.exec = Jvm.exec) (hZ : Z.Warmed39 s.vm) {j : Int32} (pc' : Nat) (i : Nat) (v : Value) (eT : T.heap = h) (A : IArr Z h a .int n f) (hj : j.toInt = (i : Int)) (hi : i < n) (hv : f i = v) (hd : decode c.code pc = .ok (.iaload, 1)) (hp : pc + 1 = pc') (K : Wp p e s below Q kc ks (T.setTop (mkF m pc' Ls (v :: st)))) : Wp p e s below Q kc ks (T.setTop (mkF m pc Ls (.int j :: .ref a :: st))) := by
  subst hp hv
  obtain ⟨cl, A, S, H⟩ := A
  exact Wp.step (fun t k => X.iaload hx (by rw [eT]; exact A.1) (State.isArrayOf_alike hZ.alike A.2.1) A.2.2 (IArr.inb S hj hi) (by rw [(nat_of hj).2]; exact H i hi) (g := mkF m pc Ls (.int j :: .ref a :: st)) rfl rfl hd t k) K
theorem W.laload (X : Stand p l e R s m args below meth c T locs cells slots) (hx : p.tables.exec = Jvm.exec) (hZ : Z.Warmed39 s.vm) {j : Int32} (pc' : Nat) (i : Nat) (v : Value) (eT : T.heap = h) (A : IArr Z h a .long n f) (hj : j.toInt = (i : Int)) (hi : i < n) (hv : f i = v) (hd : decode c.code pc = .ok (.laload, 1)) (hp : pc + 1 = pc') (K : Wp p e s below Q kc ks (T.setTop (mkF m pc' Ls (v :: st)))) : Wp p e s below Q kc ks (T.setTop (mkF m pc Ls (.int j :: .ref a :: st))) := by
  subst hp hv
  obtain ⟨cl, A, S, H⟩ := A
  exact Wp.step (fun t k => X.laload hx (by rw [eT]; exact A.1) (State.isArrayOf_alike hZ.alike A.2.1) A.2.2 (IArr.inb S hj hi) (by rw [(nat_of hj).2]; exact H i hi) (g := mkF m pc Ls (.int j :: .ref a :: st)) rfl rfl hd t k) K
theorem W.caload (X : Stand p l e R s m args below meth c T locs cells slots) (hx : p.tables.exec = Jvm.exec) (hZ : Z.Warmed39 s.vm) {j : Int32} (pc' : Nat) (i : Nat) (v : Value) (eT : T.heap = h) (A : IArr Z h a .char n f) (hj : j.toInt = (i : Int)) (hi : i < n) (hv : f i = v) (hd : decode c.code pc = .ok (.caload, 1)) (hp : pc + 1 = pc') (K : Wp p e s below Q kc ks (T.setTop (mkF m pc' Ls (v :: st)))) : Wp p e s below Q kc ks (T.setTop (mkF m pc Ls (.int j :: .ref a :: st))) := by
  subst hp hv
  obtain ⟨cl, A, S, H⟩ := A
  exact Wp.step (fun t k => X.caload hx (by rw [eT]; exact A.1) (State.isArrayOf_alike hZ.alike A.2.1) A.2.2 (IArr.inb S hj hi) (by rw [(nat_of hj).2]; exact H i hi) (g := mkF m pc Ls (.int j :: .ref a :: st)) rfl rfl hd t k) K
theorem W.baload (X : Stand p l e R s m args below meth c T locs cells slots) (hx : p.tables.exec = Jvm.exec) (hZ : Z.Warmed39 s.vm) {j : Int32} (pc' : Nat) (i : Nat) (v : Value) (eT : T.heap = h) (A : IArr Z h a .byte n f) (hj : j.toInt = (i : Int)) (hi : i < n) (hv : f i = v) (hd : decode c.code pc = .ok (.baload, 1)) (hp : pc + 1 = pc') (K : Wp p e s below Q kc ks (T.setTop (mkF m pc' Ls (v :: st)))) : Wp p e s below Q kc ks (T.setTop (mkF m pc Ls (.int j :: .ref a :: st))) := by
  subst hp hv
  obtain ⟨cl, A, S, H⟩ := A
  exact Wp.step (fun t k => X.baloadBytes hx (by rw [eT]; exact A.1) (State.isArrayOf_alike hZ.alike A.2.1) A.2.2 (IArr.inb S hj hi) (by rw [(nat_of hj).2]; exact H i hi) (g := mkF m pc Ls (.int j :: .ref a :: st)) rfl rfl hd t k) K
theorem W.zaload (X : Stand p l e R s m args below meth c T locs cells slots) (hx : p.tables.exec = Jvm.exec) (hZ : Z.Warmed39 s.vm) {j : Int32} (pc' : Nat) (i : Nat) (v : Value) (eT : T.heap = h) (A : IArr Z h a .boolean n f) (hj : j.toInt = (i : Int)) (hi : i < n) (hv : f i = v) (hd : decode c.code pc = .ok (.baload, 1)) (hp : pc + 1 = pc') (K : Wp p e s below Q kc ks (T.setTop (mkF m pc' Ls (v :: st)))) : Wp p e s below Q kc ks (T.setTop (mkF m pc Ls (.int j :: .ref a :: st))) := by
  subst hp hv
  obtain ⟨cl, A, S, H⟩ := A
  exact Wp.step (fun t k => X.baloadBooleans hx (by rw [eT]; exact A.1) (State.isArrayOf_alike hZ.alike A.2.1) A.2.2 (IArr.inb S hj hi) (by rw [(nat_of hj).2]; exact H i hi) (g := mkF m pc Ls (.int j :: .ref a :: st)) rfl rfl hd t k) K
theorem W.aaload (X : Stand p l e R s m args below meth c T locs cells slots) (hx : p.tables.exec = Jvm.exec) (hZ : Z.Warmed39 s.vm) {j : Int32} (pc' : Nat) (i : Nat) (v : Value) (eT : T.heap = h) (A : IArr Z h a ty n f) (hty : ty.isReference = true) (hj : j.toInt = (i : Int)) (hi : i < n) (hv : f i = v) (hd : decode c.code pc = .ok (.aaload, 1)) (hp : pc + 1 = pc') (K : Wp p e s below Q kc ks (T.setTop (mkF m pc' Ls (v :: st)))) : Wp p e s below Q kc ks (T.setTop (mkF m pc Ls (.int j :: .ref a :: st))) := by
  subst hp hv
  obtain ⟨cl, A, S, H⟩ := A
  exact Wp.step (fun t k => X.aaload hx (by rw [eT]; exact A.1) (State.isArrayOf_alike hZ.alike A.2.1) hty A.2.2 (IArr.inb S hj hi) (by rw [(nat_of hj).2]; exact H i hi) (g := mkF m pc Ls (.int j :: .ref a :: st)) rfl rfl hd t k) K
theorem W.iastore (X : Stand p l e R s m args below meth c T locs cells slots) (hx : p.tables.exec = Jvm.exec) (hZ : Z.Warmed39 s.vm) {j : Int32} {x : Int32} (pc' : Nat) (i : Nat) (eT : T.heap = h) (A : IArr Z h a .int n f) (hj : j.toInt = (i : Int)) (hi : i < n) (hd : decode c.code pc = .ok (.iastore, 1)) (hp : pc + 1 = pc')
    (K : ∀ T' h', Stand p l e R s m args below meth c T' (locs ++ [⟨a, i⟩]) cells slots → T'.heap = h' → Wr h h' a i (.int x) → IArr Z h' a .int n (upd f i (.int x)) → Wp p e s below Q kc ks (T'.setTop (mkF m pc' Ls st))) : Wp p e s below Q kc ks (T.setTop (mkF m pc Ls (.int x :: .int j :: .ref a :: st))) := by
  subst hp
  obtain ⟨cl, A0, S, H⟩ := A
  obtain ⟨T', h', X', e', W, stp⟩ := stI X hx hZ eT A0 (IArr.inb S hj hi) (g := mkF m pc Ls (.int x :: .int j :: .ref a :: st)) rfl rfl hd
  rw [(nat_of hj).2] at X' W
  exact Wp.step stp (K T' h' X' e' W (IArr.same ⟨cl, A0, S, H⟩ W))
theorem W.lastore (X : Stand p l e R s m args below meth c T locs cells slots) (hx : p.tables.exec = Jvm.exec) (hZ : Z.Warmed39 s.vm) {j : Int32} {x : Int64} (pc' : Nat) (i : Nat) (eT : T.heap = h) (A : IArr Z h a .long n f) (hj : j.toInt = (i : Int)) (hi : i < n) (hd : decode c.code pc = .ok (.lastore, 1)) (hp : pc + 1 = pc')
    (K : ∀ T' h', Stand p l e R s m args below meth c T' (locs ++ [⟨a, i⟩]) cells slots → T'.heap = h' → Wr h h' a i (.long x) → IArr Z h' a .long n (upd f i (.long x)) → Wp p e s below Q kc ks (T'.setTop (mkF m pc' Ls st))) : Wp p e s below Q kc ks (T.setTop (mkF m pc Ls (.long x :: .int j :: .ref a :: st))) := by
  subst hp
  obtain ⟨cl, A0, S, H⟩ := A
  obtain ⟨T', h', X', e', W, stp⟩ := stJ X hx hZ eT A0 (IArr.inb S hj hi) (g := mkF m pc Ls (.long x :: .int j :: .ref a :: st)) rfl rfl hd
  rw [(nat_of hj).2] at X' W
  exact Wp.step stp (K T' h' X' e' W (IArr.same ⟨cl, A0, S, H⟩ W))
theorem W.castore (X : Stand p l e R s m args below meth c T locs cells slots) (hx : p.tables.exec = Jvm.exec) (hZ : Z.Warmed39 s.vm) {j : Int32} {x : Int32} (pc' : Nat) (i : Nat) (eT : T.heap = h) (A : IArr Z h a .char n f) (hj : j.toInt = (i : Int)) (hi : i < n) (hd : decode c.code pc = .ok (.castore, 1)) (hp : pc + 1 = pc')
    (K : ∀ T' h', Stand p l e R s m args below meth c T' (locs ++ [⟨a, i⟩]) cells slots → T'.heap = h' → Wr h h' a i (.int (nar .char x)) → IArr Z h' a .char n (upd f i (.int (nar .char x))) → Wp p e s below Q kc ks (T'.setTop (mkF m pc' Ls st))) : Wp p e s below Q kc ks (T.setTop (mkF m pc Ls (.int x :: .int j :: .ref a :: st))) := by
  subst hp
  obtain ⟨cl, A0, S, H⟩ := A
  obtain ⟨T', h', X', e', W, stp⟩ := stC X hx hZ eT A0 (IArr.inb S hj hi) (g := mkF m pc Ls (.int x :: .int j :: .ref a :: st)) rfl rfl hd
  rw [(nat_of hj).2] at X' W
  exact Wp.step stp (K T' h' X' e' W (IArr.same ⟨cl, A0, S, H⟩ W))
theorem W.bastore (X : Stand p l e R s m args below meth c T locs cells slots) (hx : p.tables.exec = Jvm.exec) (hZ : Z.Warmed39 s.vm) {j : Int32} {x : Int32} (pc' : Nat) (i : Nat) (eT : T.heap = h) (A : IArr Z h a .byte n f) (hj : j.toInt = (i : Int)) (hi : i < n) (hd : decode c.code pc = .ok (.bastore, 1)) (hp : pc + 1 = pc')
    (K : ∀ T' h', Stand p l e R s m args below meth c T' (locs ++ [⟨a, i⟩]) cells slots → T'.heap = h' → Wr h h' a i (.int (nar .byte x)) → IArr Z h' a .byte n (upd f i (.int (nar .byte x))) → Wp p e s below Q kc ks (T'.setTop (mkF m pc' Ls st))) : Wp p e s below Q kc ks (T.setTop (mkF m pc Ls (.int x :: .int j :: .ref a :: st))) := by
  subst hp
  obtain ⟨cl, A0, S, H⟩ := A
  obtain ⟨T', h', X', e', W, stp⟩ := stB X hx hZ eT A0 (IArr.inb S hj hi) (g := mkF m pc Ls (.int x :: .int j :: .ref a :: st)) rfl rfl hd
  rw [(nat_of hj).2] at X' W
  exact Wp.step stp (K T' h' X' e' W (IArr.same ⟨cl, A0, S, H⟩ W))
theorem W.zastore (X : Stand p l e R s m args below meth c T locs cells slots) (hx : p.tables.exec = Jvm.exec) (hZ : Z.Warmed39 s.vm) {j : Int32} {x : Int32} (pc' : Nat) (i : Nat) (eT : T.heap = h) (A : IArr Z h a .boolean n f) (hj : j.toInt = (i : Int)) (hi : i < n) (hd : decode c.code pc = .ok (.bastore, 1)) (hp : pc + 1 = pc')
    (K : ∀ T' h', Stand p l e R s m args below meth c T' (locs ++ [⟨a, i⟩]) cells slots → T'.heap = h' → Wr h h' a i (.int (nar .boolean x)) → IArr Z h' a .boolean n (upd f i (.int (nar .boolean x))) → Wp p e s below Q kc ks (T'.setTop (mkF m pc' Ls st))) : Wp p e s below Q kc ks (T.setTop (mkF m pc Ls (.int x :: .int j :: .ref a :: st))) := by
  subst hp
  obtain ⟨cl, A0, S, H⟩ := A
  obtain ⟨T', h', X', e', W, stp⟩ := stZ X hx hZ eT A0 (IArr.inb S hj hi) (g := mkF m pc Ls (.int x :: .int j :: .ref a :: st)) rfl rfl hd
  rw [(nat_of hj).2] at X' W
  exact Wp.step stp (K T' h' X' e' W (IArr.same ⟨cl, A0, S, H⟩ W))
theorem W.getS (X : Stand p l e R s m args below meth c T locs cells slots) (hx : p.tables.exec = Jvm.exec) (hZ : Z.Warmed39 s.vm) {own R0 O nm d : String} {index : Nat} {v : Value} (pc' : Nat) (hown : s.vm.findClass own = some m.cls) (w : (Jvm.Cond.fieldLink own index R0 nm d).before a0 Z = true) (via : Via Z R0 O nm d) (eT : T.heap = h) (F : Sta Z h O nm d v) (hd : decode c.code pc = .ok (.getstatic index, 3)) (hp : pc + 3 = pc')
    (K : ∀ T', Stand p l e R s m args below meth c T' locs cells slots → T'.heap = h → Wp p e s below Q kc ks (T'.setTop (mkF m pc' Ls (v :: st)))) : Wp p e s below Q kc ks (T.setTop (mkF m pc Ls st)) := by
  subst hp
  obtain ⟨T', X', e', stp⟩ := Jvm.RoadKit.getS X hx hZ (host := "") hown w via eT F (g := mkF m pc Ls st) rfl hd
  exact Wp.step stp (K T' X' e')
theorem W.getF (X : Stand p l e R s m args below meth c T locs cells slots) (hx : p.tables.exec = Jvm.exec) (hZ : Z.Warmed39 s.vm) {own R0 O nm d : String} {index : Nat} {v : Value} (pc' : Nat) (hown : s.vm.findClass own = some m.cls) (w : (Jvm.Cond.fieldLink own index R0 nm d).before a0 Z = true) (via : Via Z R0 O nm d) (eT : T.heap = h) (F : Fld Z h a O nm d v) (hd : decode c.code pc = .ok (.getfield index, 3)) (hp : pc + 3 = pc')
    (K : ∀ T', Stand p l e R s m args below meth c T' locs cells slots → T'.heap = h → Wp p e s below Q kc ks (T'.setTop (mkF m pc' Ls (v :: st)))) : Wp p e s below Q kc ks (T.setTop (mkF m pc Ls (.ref a :: st))) := by
  subst hp
  obtain ⟨T', X', e', stp⟩ := Jvm.RoadKit.getF X hx hZ (host := "") hown (Or.inl w) via eT F (g := mkF m pc Ls (.ref a :: st)) rfl rfl hd
  exact Wp.step stp (K T' X' e')
theorem W.putF (X : Stand p l e R s m args below meth c T locs cells slots) (hx : p.tables.exec = Jvm.exec) (hZ : Z.Warmed39 s.vm) {own R0 O nm d C : String} {index kk : Nat} {v old : Value} {ty : FieldType} (pc' : Nat) (hown : s.vm.findClass own = some m.cls) (w : (Jvm.Cond.fieldLink own index R0 nm d).before a0 Z = true) (via : Via Z R0 O nm d) (eT : T.heap = h) (F : Fld Z h a O nm d old) (E : Exa Z h a C) (L : (Jvm.Cond.lays C O nm d).before a0 Z = true ∨ ((Jvm.Cond.laysFinal C O nm d).before a0 Z = true ∧ own = O ∧ meth.name = "<init>")) (wi : (Jvm.Cond.instantiable C kk).before a0 Z = true)
    (hty : parseFieldDescriptor d = some ty) (hn : narrow ty v = v) (hf : fits ty v = true) (hd : decode c.code pc = .ok (.putfield index, 3)) (hp : pc + 3 = pc')
    (K : ∀ T' h', Stand p l e R s m args below meth c T' (locs ++ [⟨a, Jvm.RoadKit.slotOf Z O nm d⟩]) cells slots → T'.heap = h' → Wr h h' a (Jvm.RoadKit.slotOf Z O nm d) v → Fld Z h' a O nm d v → Wp p e s below Q kc ks (T'.setTop (mkF m pc' Ls st))) : Wp p e s below Q kc ks (T.setTop (mkF m pc Ls (v :: .ref a :: st))) := by
  subst hp
  obtain ⟨T', h', X', e', W, stp⟩ := Jvm.RoadKit.putF X hx hZ hown (host := "") (Or.inl w) via eT F E L wi hty hn hf (g := mkF m pc Ls (v :: .ref a :: st)) rfl rfl hd
  exact Wp.step stp (K T' h' X' e' W (F.same W))
theorem W.newO (X : Stand p l e R s m args below meth c T locs cells slots) (hx : p.tables.exec = Jvm.exec) (hZ : Z.Warmed39 s.vm) {own C : String} {index k : Nat} (pc' : Nat) (hown : s.vm.findClass own = some m.cls) (w : (Jvm.Cond.classLink own index C).before a0 Z = true) (wi : (Jvm.Cond.instantiable C k).before a0 Z = true) (wz : (Jvm.Cond.initialized C).before a0 Z = true) (eT : T.heap = h) (hd : decode c.code pc = .ok (.new index, 3)) (hc : cells + 1 ≤ R.cells) (hl : slots + k ≤ R.slots) (hp : pc + 3 = pc')
    (K : ∀ T' h' a, a = h.size → Stand p l e R s m args below meth c T' locs (cells + 1) (slots + k) → T'.heap = h' → Ext h h' → Exa Z h' a C → (∀ {O nm d : String} {ty : FieldType}, Laid Z a0 C O nm d → parseFieldDescriptor d = some ty → Fld Z h' a O nm d (defaultValue ty)) → Wp p e s below Q kc ks (T'.setTop (mkF m pc' Ls (.ref a :: st)))) : Wp p e s below Q kc ks (T.setTop (mkF m pc Ls st)) := by
  subst hp
  obtain ⟨T', h', X', e', E, A, D, -, stp⟩ := Jvm.RoadKit.newO X hx hZ hown w wi wz eT (g := mkF m pc Ls st) rfl hd hc hl
  exact Wp.step stp (K T' h' _ rfl X' e' E A D)
theorem W.initO (X : Stand p l e R s m args below meth c T locs cells slots) (hx : p.tables.exec = Jvm.exec) (hZ : Z.Warmed39 s.vm) {own : String} {idx : Nat} (pc' W : Nat) (hown : s.vm.findClass own = some m.cls) (w1 : (Jvm.Cond.methodLink own idx Lib.objectInit).before a0 Z = true) (w2 : (Jvm.Cond.instanceMethod Lib.objectInit).before a0 Z = true) (w3 : (Jvm.Cond.code Lib.objectInit ⟨#[0xb1]⟩ 1 none).before a0 Z = true) (eT : T.heap = h) (hsz : Ls.size = c.maxLocals) (hd : decode c.code pc = .ok (.invokespecial idx, 3)) (hf : 1 ≤ R.frames) (hW : (st.map fun v => v.category).sum = W) (hl : W + 12 ≤ R.locals) (hp : pc + 3 = pc')
    (K : ∀ T', Stand p l e R s m args below meth c T' locs cells slots → T'.heap = h → Wp p e s below Q kc ks (T'.setTop (mkF m pc' Ls st))) : Wp p e s below Q kc ks (T.setTop (mkF m pc Ls (.ref a :: st))) := by
  subst hp
  obtain ⟨T', X', e', stp⟩ := Jvm.RoadKit.initO X hx hZ hown w1 w2 w3 eT (g := mkF m pc Ls (.ref a :: st)) rfl hsz rfl hd hf (W := W) (by show 2 * 0 + _ ≤ _; omega) hl
  exact Wp.step stp (K T' X' e')
/-! calls -/
theorem W.callS (X : Stand p l e R s m args below meth c T locs cells slots) (hx : p.tables.exec = Jvm.exec) (hZ : Z.Warmed39 s.vm) {own : String} {index : Nat} {y : MethodName} {bytes : ByteArray} {maxL : Nat} {ret : Option FieldType} {rm : Room} {Qc : Option Value → Heap → List Loc → Prop} {ps : List FieldType} {r : Option FieldType} {stk : List Value} (pc' W : Nat) (argsL : List Value)
    (hown : s.vm.findClass own = some m.cls) (w1 : (Jvm.Cond.methodLink own index y).before a0 Z = true) (w2 : (Jvm.Cond.static y).before a0 Z = true) (w3 : (Jvm.Cond.initialized y.cls).before a0 Z = true) (w4 : (Jvm.Cond.code y bytes maxL ret).before a0 Z = true) (hy : y.cls ≠ "java/lang/invoke/MethodHandle" ∧ y.cls ≠ "java/lang/invoke/VarHandle")
    (hpd : parseMethodDescriptor y.desc = some ⟨ps, r⟩) (hlen : argsL.length = ps.length) (eT : T.heap = h) (hM : Con l Z y bytes maxL ret [] rm argsL.toArray h Qc) (hd : decode c.code pc = .ok (.invokestatic index, 3)) (hsz : Ls.size = c.maxLocals) (hstk : stk = argsL.reverse ++ rest) (hW : (rest.map fun v => v.category).sum = W)
    (hf : rm.frames + 1 ≤ R.frames) (hl : W + (maxL + 11) + rm.locals ≤ R.locals) (hc : cells + rm.cells ≤ R.cells) (hsl : slots + rm.slots ≤ R.slots) (hp : pc + 3 = pc')
    (K : ∀ v T' L, Stand p l e R s m args below meth c T' (locs ++ L) (cells + rm.cells) (slots + rm.slots) → Qc v T'.heap L → Wp p e s below Q kc ks (T'.setTop (mkF m pc' Ls (v.toList ++ rest)))) : Wp p e s below Q kc ks (T.setTop (mkF m pc Ls stk)) := by
  subst hp hstk
  obtain ⟨v, vm₁, ⟨T', L', k', n'⟩, -, X', ⟨Lc, hQ, l1, l2, l3⟩, stp⟩ := Jvm.LawKit.callS X hx (y := y) hown (mvT hZ w1) (mvT hZ w2) (mvT hZ w3) (mvT hZ w4) hy (backOf (W := W) hM hZ w4 w3 hf hl) (g := mkF m pc Ls (argsL.reverse ++ rest)) rfl hsz (argsL := argsL) (rest := rest) (lenOf hpd hlen) rfl (by show 2 * 0 + _ ≤ _; omega) hd (fun _ _ => ⟨rfl, eT, hc, hsl⟩)
  dsimp only [Pt.U, Pt.locs, Pt.cells, Pt.slots] at X' l1 l2 l3 stp hQ
  subst l1 l2 l3
  exact Wp.step stp (K v T' Lc X' hQ)
theorem W.callI (X : Stand p l e R s m args below meth c T locs cells slots) (hx : p.tables.exec = Jvm.exec) (hZ : Z.Warmed39 s.vm) {own : String} {index : Nat} {y : MethodName} {bytes : ByteArray} {maxL : Nat} {rm : Room} {Qc : Option Value → Heap → List Loc → Prop} {ps : List FieldType} {r : Option FieldType} {stk : List Value} (pc' W : Nat) (b : Addr) (argsL : List Value) (hy1 : y.name = "<init>")
    (hown : s.vm.findClass own = some m.cls) (w1 : (Jvm.Cond.methodLink own index y).before a0 Z = true) (w2 : (Jvm.Cond.instanceMethod y).before a0 Z = true) (w3 : (Jvm.Cond.initialized y.cls).before a0 Z = true) (w4 : (Jvm.Cond.code y bytes maxL none).before a0 Z = true) (hy : y.cls ≠ "java/lang/invoke/MethodHandle" ∧ y.cls ≠ "java/lang/invoke/VarHandle")
    (hpd : parseMethodDescriptor y.desc = some ⟨ps, r⟩) (hlen : argsL.length = ps.length) (eT : T.heap = h) (hM : Con l Z y bytes maxL none [] rm (.ref b :: argsL).toArray h Qc) (hd : decode c.code pc = .ok (.invokespecial index, 3)) (hsz : Ls.size = c.maxLocals) (hstk : stk = argsL.reverse ++ .ref b :: rest) (hW : (rest.map fun v => v.category).sum = W)
    (hf : rm.frames + 1 ≤ R.frames) (hl : W + (maxL + 11) + rm.locals ≤ R.locals) (hc : cells + rm.cells ≤ R.cells) (hsl : slots + rm.slots ≤ R.slots) (hp : pc + 3 = pc')
    (K : ∀ v T' L, Stand p l e R s m args below meth c T' (locs ++ L) (cells + rm.cells) (slots + rm.slots) → Qc v T'.heap L → Wp p e s below Q kc ks (T'.setTop (mkF m pc' Ls (v.toList ++ rest)))) : Wp p e s below Q kc ks (T.setTop (mkF m pc Ls stk)) := by
  subst hp hstk
  obtain ⟨v, vm₁, ⟨T', L', k', n'⟩, -, X', ⟨Lc, hQ, l1, l2, l3⟩, stp⟩ := X.specialBack hx (y := y) hy1 hown (mvT hZ w1) (mvT hZ w2) (mvT hZ w4) hy (backOf (W := W) hM hZ w4 w3 hf hl) (g := mkF m pc Ls (argsL.reverse ++ .ref b :: rest)) rfl hsz (Steps.refl _) (a := b) (argsL := argsL) (rest := rest) (lenOf hpd hlen) rfl (by show 2 * 0 + _ ≤ _; omega) hd (fun _ _ => ⟨rfl, eT, hc, hsl⟩)
  dsimp only [Pt.U, Pt.locs, Pt.cells, Pt.slots] at X' l1 l2 l3 stp hQ
  subst l1 l2 l3
  exact Wp.chain stp (K v T' Lc X' hQ)
theorem W.callV (X : Stand p l e R s m args below meth c T locs cells slots) (hx : p.tables.exec = Jvm.exec) (hZ : Z.Warmed39 s.vm) {own C : String} {index : Nat} {y : MethodName} {bytes : ByteArray} {maxL : Nat} {ret : Option FieldType} {rm : Room} {Qc : Option Value → Heap → List Loc → Prop} {ps : List FieldType} {r : Option FieldType} {stk : List Value} (pc' W : Nat) (b : Addr) (argsL : List Value)
    (hown : s.vm.findClass own = some m.cls) (w1 : (Jvm.Cond.methodLink own index y).before a0 Z = true) (w2 : (Jvm.Cond.declares y).before a0 Z = true) (w5 : (Jvm.Cond.selects C y y).before a0 Z = true) (w6 : (Jvm.Cond.instanceMethod y).before a0 Z = true) (w3 : (Jvm.Cond.initialized y.cls).before a0 Z = true) (w4 : (Jvm.Cond.code y bytes maxL ret).before a0 Z = true) (hy : y.cls ≠ "java/lang/invoke/MethodHandle" ∧ y.cls ≠ "java/lang/invoke/VarHandle")
    (hpd : parseMethodDescriptor y.desc = some ⟨ps, r⟩) (hlen : argsL.length = ps.length) (eT : T.heap = h) (E : Exa Z h b C) (hM : Con l Z y bytes maxL ret [] rm (.ref b :: argsL).toArray h Qc) (hd : decode c.code pc = .ok (.invokevirtual index, 3)) (hsz : Ls.size = c.maxLocals) (hstk : stk = argsL.reverse ++ .ref b :: rest) (hW : (rest.map fun v => v.category).sum = W)
    (hf : rm.frames + 1 ≤ R.frames) (hl : W + (maxL + 11) + rm.locals ≤ R.locals) (hc : cells + rm.cells ≤ R.cells) (hsl : slots + rm.slots ≤ R.slots) (hp : pc + 3 = pc')
    (K : ∀ v T' L, Stand p l e R s m args below meth c T' (locs ++ L) (cells + rm.cells) (slots + rm.slots) → Qc v T'.heap L → Wp p e s below Q kc ks (T'.setTop (mkF m pc' Ls (v.toList ++ rest)))) : Wp p e s below Q kc ks (T.setTop (mkF m pc Ls stk)) := by
  subst hp hstk
  obtain ⟨cq, kq, qa, qb, qc⟩ := isOf hZ eT E
  obtain ⟨v, vm₁, ⟨T', L', k', n'⟩, -, X', ⟨Lc, hQ, l1, l2, l3⟩, stp⟩ := X.virtualBack hx (y := y) (z := y) hown (mvT hZ w1) (mvT hZ w2) (notFace_of_selects (args := args) (mvT hZ w5)) (mvT hZ w5) (mvT hZ w6) hy (backOf (W := W) hM hZ w4 w3 hf hl) qa qc (g := mkF m pc Ls (argsL.reverse ++ .ref b :: rest)) rfl hsz (Steps.refl _) (argsL := argsL) (rest := rest) (lenOf hpd hlen) rfl (by show 2 * 0 + _ ≤ _; omega) hd (fun _ _ => ⟨rfl, eT, hc, hsl⟩)
  dsimp only [Pt.U, Pt.locs, Pt.cells, Pt.slots] at X' l1 l2 l3 stp hQ
  subst l1 l2 l3
  exact Wp.chain stp (K v T' Lc X' hQ)
theorem ext_refl (h : Heap) : Ext h h := ⟨Nat.le_refl _, fun _ _ q => q⟩
theorem ext_trans {h1 h2 h3 : Heap} (E : Ext h1 h2) (E' : Ext h2 h3) : Ext h1 h3 := ⟨Nat.le_trans E.1 E'.1, fun a c q => E'.2 a c (E.2 a c q)⟩
theorem ext_wr {h0 : Heap} {sl : Nat} {v : Value} (E : Ext h0 h) (W : Wr h h' a sl v) (q : h0.size ≤ a) : Ext h0 h' := by
  refine ⟨by rw [W.size]; exact E.1, fun x cx hx => ?_⟩
  obtain ⟨c', e1, -, -, -, e5, -⟩ := wr_at W (E.2 x cx hx)
  rw [e1, e5 (fun z => by subst z; exact absurd (Array.getElem?_eq_some_iff.mp hx).1 (Nat.not_lt.mpr q))]
theorem ext_keep {h0 : Heap} {ws : List Addr} (E : Ext h0 h) (K : Keep h h' ws) (q : ∀ x ∈ ws, h0.size ≤ x) : Ext h0 h' :=
  ⟨Nat.le_trans E.1 K.1, fun x cx hx => K.2.1 x cx (E.2 x cx hx) fun z => absurd (Array.getElem?_eq_some_iff.mp hx).1 (Nat.not_lt.mpr (q x z))⟩
/-! switches -/
theorem W.lswHit (X : Stand p l e R s m args below meth c T locs cells slots) (hx : p.tables.exec = Jvm.exec) {k : Int32} {dflt : Int} {pairs : Array (Int × Int)} {len : Nat} (pc' : Nat) (y off : Int) (hd : decode c.code pc = .ok (.lookupswitch dflt pairs, len)) (hso : (pairs.toList.zip (pairs.toList.drop 1)).all (fun (a, next) => a.1 < next.1) = true) (hf : pairs.find? (·.1 == k.toInt) = some (y, off)) (ho : 0 ≤ (pc : Int) + off) (hp : ((pc : Int) + off).toNat = pc') (K : Wp p e s below Q kc ks (T.setTop (mkF m pc' Ls st))) : Wp p e s below Q kc ks (T.setTop (mkF m pc Ls (.int k :: st))) := by
  subst hp; exact Wp.step (fun t q => X.lookupswitchHit hx (g := mkF m pc Ls (.int k :: st)) rfl rfl hd hso hf ho t q) K
theorem W.lswMiss (X : Stand p l e R s m args below meth c T locs cells slots) (hx : p.tables.exec = Jvm.exec) {k : Int32} {dflt : Int} {pairs : Array (Int × Int)} {len : Nat} (pc' : Nat) (hd : decode c.code pc = .ok (.lookupswitch dflt pairs, len)) (hso : (pairs.toList.zip (pairs.toList.drop 1)).all (fun (a, next) => a.1 < next.1) = true) (hf : pairs.find? (·.1 == k.toInt) = none) (ho : 0 ≤ (pc : Int) + dflt) (hp : ((pc : Int) + dflt).toNat = pc') (K : Wp p e s below Q kc ks (T.setTop (mkF m pc' Ls st))) : Wp p e s below Q kc ks (T.setTop (mkF m pc Ls (.int k :: st))) := by
  subst hp; exact Wp.step (fun t q => X.lookupswitchMiss hx (g := mkF m pc Ls (.int k :: st)) rfl rfl hd hso hf ho t q) K
theorem W.tswIn (X : Stand p l e R s m args below meth c T locs cells slots) (hx : p.tables.exec = Jvm.exec) {k : Int32} {dflt low high : Int} {offs : Array Int} {len : Nat} (pc' : Nat) (off : Int) (hd : decode c.code pc = .ok (.tableswitch dflt low high offs, len)) (hi : ¬ (k.toInt < low ∨ k.toInt > high)) (hf : offs[(k.toInt - low).toNat]? = some off) (ho : 0 ≤ (pc : Int) + off) (hp : ((pc : Int) + off).toNat = pc') (K : Wp p e s below Q kc ks (T.setTop (mkF m pc' Ls st))) : Wp p e s below Q kc ks (T.setTop (mkF m pc Ls (.int k :: st))) := by
  subst hp; exact Wp.step (fun t q => X.tableswitchIn hx (g := mkF m pc Ls (.int k :: st)) rfl rfl hd hi hf ho t q) K
/-! arrays of references -/
def Takes (Z : State) (h : Heap) (a : Addr) (C : String) : Prop := ∃ (c : Cell) (ty : FieldType), Arr Z h a c ty ∧ Ovr Z c.cls C
theorem Takes.lt {C : String} (F : Takes Z h a C) : a < h.size := by obtain ⟨c, ty, A, -⟩ := F; exact A.lt
theorem Takes.ext {C : String} (F : Takes Z h a C) (E : Ext h h') : Takes Z h' a C := by obtain ⟨c, ty, A, O⟩ := F; exact ⟨c, ty, A.ext E, O⟩
theorem Takes.wr {C : String} {sl : Nat} {v : Value} (F : Takes Z h a C) (W : Wr h h' b sl v) : Takes Z h' a C := by
  obtain ⟨c, ty, A, O⟩ := F
  by_cases q : a = b
  · subst q; exact ⟨_, ty, A.same W, O⟩
  · exact ⟨c, ty, A.other W q, O⟩
theorem Takes.sto {C : String} {y : Addr} (F : Takes Z h a C) (I : Ins Z h y C true) : Sto Z h a (.ref y) := by obtain ⟨c, ty, A, O⟩ := F; exact Sto.of A O I
theorem W.newR (X : Stand p l e R s m args below meth c T locs cells slots) (hx : p.tables.exec = Jvm.exec) (hZ : Z.Warmed39 s.vm) {own C : String} {index : Nat} {z : Int32} (pc' : Nat) (k cap : Nat) (hown : s.vm.findClass own = some m.cls) (w1 : (Jvm.Cond.classLink own index C).before a0 Z = true) (w2 : (Jvm.Cond.arrayOver (.object C)).before a0 Z = true) (eT : T.heap = h) (hd : decode c.code pc = .ok (.anewarray index, 3)) (hz : z.toInt = (k : Int)) (hcap : k ≤ cap) (hb : cap * 8 ≤ 536870912) (hc : cells + 1 ≤ R.cells) (hl : slots + cap ≤ R.slots) (hp : pc + 3 = pc')
    (K : ∀ T' h' a, a = h.size → Stand p l e R s m args below meth c T' locs (cells + 1) (slots + cap) → T'.heap = h' → Ext h h' → IArr Z h' a (.object C) k (fun _ => defaultValue (.object C)) → Takes Z h' a C → Wp p e s below Q kc ks (T'.setTop (mkF m pc' Ls (.ref a :: st)))) : Wp p e s below Q kc ks (T.setTop (mkF m pc Ls (.int z :: st))) := by
  subst hp
  obtain ⟨q1, q2⟩ := nat_of hz
  obtain ⟨T', h', cA, X', e', E, A, O, stp⟩ := Jvm.RoadKit.newR X hx hZ hown w1 w2 eT (g := mkF m pc Ls (.int z :: st)) rfl hd rfl q1 (cap := cap) (by omega) hb hc hl
  exact Wp.step stp (K T' h' _ rfl X' e' E (IArr.fresh A q2) ⟨_, _, A, O⟩)
theorem W.aastore (X : Stand p l e R s m args below meth c T locs cells slots) (hx : p.tables.exec = Jvm.exec) (hZ : Z.Warmed39 s.vm) {j : Int32} {v : Value} (pc' : Nat) (i : Nat) (eT : T.heap = h) (A : IArr Z h a ty n f) (hty : ty.isReference = true) (F : Sto Z h a v) (hj : j.toInt = (i : Int)) (hi : i < n) (hd : decode c.code pc = .ok (.aastore, 1)) (hp : pc + 1 = pc')
    (K : ∀ T' h', Stand p l e R s m args below meth c T' (locs ++ [⟨a, i⟩]) cells slots → T'.heap = h' → Wr h h' a i v → IArr Z h' a ty n (upd f i v) → Wp p e s below Q kc ks (T'.setTop (mkF m pc' Ls st))) : Wp p e s below Q kc ks (T.setTop (mkF m pc Ls (v :: .int j :: .ref a :: st))) := by
  subst hp
  obtain ⟨cl, A0, S, H⟩ := A
  obtain ⟨T', h', X', e', W, stp⟩ := stR X hx hZ eT A0 (IArr.inb S hj hi) hty F (g := mkF m pc Ls (v :: .int j :: .ref a :: st)) rfl rfl hd
  rw [(nat_of hj).2] at X' W
  exact Wp.step stp (K T' h' X' e' W (IArr.same ⟨cl, A0, S, H⟩ W))
/-! a virtual call whose method is declared in a superclass -/
theorem W.callU (X : Stand p l e R s m args below meth c T locs cells slots) (hx : p.tables.exec = Jvm.exec) (hZ : Z.Warmed39 s.vm) {own C owner : String} {index : Nat} {y z : MethodName} {bytes : ByteArray} {maxL : Nat} {ret : Option FieldType} {rm : Room} {Qc : Option Value → Heap → List Loc → Prop} {ps : List FieldType} {r : Option FieldType} {stk : List Value} (pc' W : Nat) (b : Addr) (argsL : List Value)
    (hown : s.vm.findClass own = some m.cls) (w1 : (Jvm.Cond.methodLink own index y).before a0 Z = true) (w7 : (Jvm.Cond.sameMethod y.cls owner y.name y.desc).before a0 Z = true) (w2 : (Jvm.Cond.declares ⟨owner, y.name, y.desc⟩).before a0 Z = true) (hy : owner ≠ "java/lang/invoke/MethodHandle" ∧ owner ≠ "java/lang/invoke/VarHandle") (w5 : (Jvm.Cond.selects C y z).before a0 Z = true) (w6 : (Jvm.Cond.instanceMethod z).before a0 Z = true) (w3 : (Jvm.Cond.initialized z.cls).before a0 Z = true) (w4 : (Jvm.Cond.code z bytes maxL ret).before a0 Z = true)
    (hpd : parseMethodDescriptor y.desc = some ⟨ps, r⟩) (hlen : argsL.length = ps.length) (eT : T.heap = h) (E : Exa Z h b C) (hM : Con l Z z bytes maxL ret [] rm (.ref b :: argsL).toArray h Qc) (hd : decode c.code pc = .ok (.invokevirtual index, 3)) (hsz : Ls.size = c.maxLocals) (hstk : stk = argsL.reverse ++ .ref b :: rest) (hW : (rest.map fun v => v.category).sum = W)
    (hf : rm.frames + 1 ≤ R.frames) (hl : W + (maxL + 11) + rm.locals ≤ R.locals) (hc : cells + rm.cells ≤ R.cells) (hsl : slots + rm.slots ≤ R.slots) (hp : pc + 3 = pc')
    (K : ∀ v T' L, Stand p l e R s m args below meth c T' (locs ++ L) (cells + rm.cells) (slots + rm.slots) → Qc v T'.heap L → Wp p e s below Q kc ks (T'.setTop (mkF m pc' Ls (v.toList ++ rest)))) : Wp p e s below Q kc ks (T.setTop (mkF m pc Ls stk)) := by
  subst hp hstk
  obtain ⟨cq, kq, qa, qb, qc⟩ := isOf hZ eT E
  obtain ⟨v, vm₁, ⟨T', L', k', n'⟩, -, X', ⟨Lc, hQ, l1, l2, l3⟩, stp⟩ := X.virtualBackUp hx (x := y) (y := z) (owner := owner) hown (mvT hZ w1) (mvT hZ w7) (mvT hZ w2) hy (mvT hZ w5) (mvT hZ w6) (backOf (W := W) hM hZ w4 w3 hf hl) qa qc (g := mkF m pc Ls (argsL.reverse ++ .ref b :: rest)) rfl hsz (Steps.refl _) (argsL := argsL) (rest := rest) (lenOf hpd hlen) rfl (by show 2 * 0 + _ ≤ _; omega) hd (fun _ _ => ⟨rfl, eT, hc, hsl⟩)
  dsimp only [Pt.U, Pt.locs, Pt.cells, Pt.slots] at X' l1 l2 l3 stp hQ
  subst l1 l2 l3
  exact Wp.chain stp (K v T' Lc X' hQ)
/-! a private instance method -/
theorem W.callP (X : Stand p l e R s m args below meth c T locs cells slots) (hx : p.tables.exec = Jvm.exec) (hZ : Z.Warmed39 s.vm) {own : String} {index : Nat} {y : MethodName} {bytes : ByteArray} {maxL kk : Nat} {ret : Option FieldType} {rm : Room} {Qc : Option Value → Heap → List Loc → Prop} {ps : List FieldType} {r : Option FieldType} {stk : List Value} (pc' W : Nat) (b : Addr) (argsL : List Value)
    (hown : s.vm.findClass own = some m.cls) (w1 : (Jvm.Cond.methodLink own index y).before a0 Z = true) (w2 : (Jvm.Cond.instanceMethod y).before a0 Z = true) (w5 : (Jvm.Cond.privateMethod y).before a0 Z = true) (w6 : (Jvm.Cond.instantiable y.cls kk).before a0 Z = true) (w3 : (Jvm.Cond.initialized y.cls).before a0 Z = true) (w4 : (Jvm.Cond.code y bytes maxL ret).before a0 Z = true) (hy : y.cls ≠ "java/lang/invoke/MethodHandle" ∧ y.cls ≠ "java/lang/invoke/VarHandle")
    (hpd : parseMethodDescriptor y.desc = some ⟨ps, r⟩) (hlen : argsL.length = ps.length) (eT : T.heap = h) {C : String} (E : Exa Z h b C) (hM : Con l Z y bytes maxL ret [] rm (.ref b :: argsL).toArray h Qc) (hd : decode c.code pc = .ok (.invokevirtual index, 3)) (hsz : Ls.size = c.maxLocals) (hstk : stk = argsL.reverse ++ .ref b :: rest) (hW : (rest.map fun v => v.category).sum = W)
    (hf : rm.frames + 1 ≤ R.frames) (hl : W + (maxL + 11) + rm.locals ≤ R.locals) (hc : cells + rm.cells ≤ R.cells) (hsl : slots + rm.slots ≤ R.slots) (hp : pc + 3 = pc')
    (K : ∀ v T' L, Stand p l e R s m args below meth c T' (locs ++ L) (cells + rm.cells) (slots + rm.slots) → Qc v T'.heap L → Wp p e s below Q kc ks (T'.setTop (mkF m pc' Ls (v.toList ++ rest)))) : Wp p e s below Q kc ks (T.setTop (mkF m pc Ls stk)) := by
  subst hp hstk
  obtain ⟨cq, q, q'⟩ := E.cell
  have hpr := Cond.privateMethod_at (mvP hZ w5 (args := args))
  obtain ⟨c2, k2, i1, i2, i3, i4, -⟩ := Cond.instantiable_spec (mvT (args := args) hZ w6)
  have hsel := selects_self_of_private i1 i2 (Bool.or_eq_false_iff.mp i4).1 hpr (mvT (args := args) hZ w2) hy
  obtain ⟨v, vm₁, ⟨T', L', k', n'⟩, -, X', ⟨Lc, hQ, l1, l2, l3⟩, stp⟩ := X.privateBack hx (y := y) hown (mvT hZ w1) (mvT hZ w2) hsel hpr (mvT hZ w4) hy (backOf (W := W) hM hZ w4 w3 hf hl) (g := mkF m pc Ls (argsL.reverse ++ .ref b :: rest)) rfl hsz (Steps.refl _) (a := b) (by rw [eT]; exact q) q' (argsL := argsL) (rest := rest) (lenOf hpd hlen) rfl (by show 2 * 0 + _ ≤ _; omega) hd (fun _ _ => ⟨rfl, eT, hc, hsl⟩)
  dsimp only [Pt.U, Pt.locs, Pt.cells, Pt.slots] at X' l1 l2 l3 stp hQ
  subst l1 l2 l3
  exact Wp.chain stp (K v T' Lc X' hQ)
/-! arraycopy of primitives -/
theorem own_getD {n : Nat} {f : Nat → Value} {d : Value} {q : Nat} (hq : q < n) : ((List.range n).map f).getD q d = f q := by
  rw [List.getD_eq_getElem?_getD, List.getElem?_map, List.getElem?_range hq]; rfl
theorem own_splice {vd us : List Value} {j k q : Nat} {d : Value} (hu : us.length = k) (hjk : j + k ≤ vd.length) : (vd.take j ++ us ++ vd.drop (j + k)).getD q d = if j ≤ q ∧ q < j + k then us.getD (q - j) d else vd.getD q d := by
  simp only [List.getD_eq_getElem?_getD]
  have l1 : (vd.take j).length = j := by rw [List.length_take]; omega
  by_cases h1 : q < j
  · rw [List.append_assoc, List.getElem?_append_left (by omega), List.getElem?_take_of_lt h1, if_neg (by omega)]
  · by_cases h2 : q < j + k
    · rw [List.getElem?_append_left (by rw [List.length_append]; omega), List.getElem?_append_right (by omega), l1, if_pos ⟨by omega, h2⟩]
    · rw [List.getElem?_append_right (by rw [List.length_append]; omega), List.getElem?_drop, if_neg (by omega), List.length_append, l1, hu]
      congr 2
      omega
theorem IArr.arv (A : IArr Z h a ty n f) (hn : n < 2147483648) (hf : ∀ i, i < n → fits ty (f i) = true) : ∃ k, Arv Z h a k ty (Int32.ofNat n) ((List.range n).map f) .null := by
  obtain ⟨c, A, S, H⟩ := A
  obtain ⟨q1, q2⟩ := nat_of (own_ofNat hn)
  refine ⟨c.cls, c, A, rfl, by rw [q2, S], q1, fun i hi => ?_, fun i hi => ?_⟩
  · rw [own_getD (by omega)]; exact H i (by omega)
  · rw [own_getD (by omega)]; exact hf i (by omega)
theorem W.acopy (X : Stand p l e R s m args below meth c T locs cells slots) (hx : p.tables.exec = Jvm.exec) (hZ : Z.Warmed39 s.vm) {own : String} {index : Nat} {sp dp nn : Int32} {n' : Nat} {g : Nat → Value} {n0 : Nat} (pc' W i j k : Nat) (hown : s.vm.findClass own = some m.cls) (w1 : (Jvm.Cond.methodLink own index Jvm.Stand.acN).before a0 Z = true) (w2 : (Jvm.Cond.native Jvm.Stand.acN).before a0 Z = true) (w3 : (Jvm.Cond.static Jvm.Stand.acN).before a0 Z = true) (w4 : (Jvm.Cond.initialized "java/lang/System").before a0 Z = true) (eT : T.heap = h)
    (A : IArr Z h a ty n f) (B : IArr Z h b ty n' g) (hty : refKind ty = false) (hfa : ∀ i, i < n → fits ty (f i) = true) (hfb : ∀ i, i < n' → fits ty (g i) = true) (hsp : sp.toInt = (i : Int)) (hdp : dp.toInt = (j : Int)) (hnn : nn.toInt = (k : Int)) (h4 : i + k ≤ n) (h5 : j + k ≤ n') (hn : n < 2147483648) (hn' : n' < 2147483648) (N : Fr n0 locs) (ge : n0 ≤ b)
    (hsz : Ls.size = c.maxLocals) (hd : decode c.code pc = .ok (.invokestatic index, 3)) (hf : 1 ≤ R.frames) (hW : (st.map fun v => v.category).sum = W) (hlo : W + (nativeFrameWords "java/lang/System" "arraycopy" 5 + 11) ≤ R.locals) (hp : pc + 3 = pc')
    (K : ∀ T' h' L, Stand p l e R s m args below meth c T' L cells slots → T'.heap = h' → Fr n0 L → Keep h h' [b] → IArr Z h' b ty n' (fun q => if j ≤ q ∧ q < j + k then f (i + (q - j)) else g q) → Wp p e s below Q kc ks (T'.setTop (mkF m pc' Ls st))) : Wp p e s below Q kc ks (T.setTop (mkF m pc Ls (.int nn :: .int dp :: .ref b :: .int sp :: .ref a :: st))) := by
  subst hp
  obtain ⟨ka, VA⟩ := A.arv hn hfa
  obtain ⟨kb, VB⟩ := B.arv hn' hfb
  obtain ⟨s1, s2⟩ := nat_of hsp
  obtain ⟨d1, d2⟩ := nat_of hdp
  obtain ⟨m1, m2⟩ := nat_of hnn
  obtain ⟨-, z2⟩ := nat_of (own_ofNat hn)
  obtain ⟨-, z2'⟩ := nat_of (own_ofNat hn')
  obtain ⟨T', h', L, X', e', N', Kp, V', stp⟩ := cpA X hx hZ hown w1 w2 w3 w4 eT VA VB (Or.inl ⟨rfl, hty⟩) s1 d1 m1 (by rw [s2, m2, z2]; exact h4) (by rw [d2, m2, z2']; exact h5) rfl (by rw [d2, m2]; simpa using h5) N ge (g := mkF m pc Ls (.int nn :: .int dp :: .ref b :: .int sp :: .ref a :: st)) rfl hsz rfl hd hf (W := W) (by show 2 * 0 + _ ≤ _; omega) hlo
  refine Wp.step stp (K T' h' L X' e' N' Kp ?_)
  obtain ⟨c', A', -, S', -, H', -⟩ := V'
  refine ⟨c', A', by rw [S', z2'], fun q hq => ?_⟩
  rw [H' q (by rw [S', z2']; exact hq), d2, m2, s2, own_splice (by simp) (by simpa using h5)]
  dsimp only
  by_cases hh : j ≤ q ∧ q < j + k
  · rw [if_pos hh, if_pos hh, own_getD (by omega), own_getD (by omega)]
  · rw [if_neg hh, if_neg hh, own_getD hq]
def BArr (Z : State) (h : Heap) (a : Addr) (ty : FieldType) (n : Nat) : Prop := ∃ f, IArr Z h a ty n f ∧ ∀ i, i < n → fits ty (f i) = true
theorem BArr.lt (A : BArr Z h a ty n) : a < h.size := by obtain ⟨f, A, -⟩ := A; exact A.lt
theorem BArr.ext (A : BArr Z h a ty n) (E : Ext h h') : BArr Z h' a ty n := by obtain ⟨f, A, r⟩ := A; exact ⟨f, A.ext E, r⟩
theorem BArr.other {sl : Nat} {v : Value} (A : BArr Z h b ty n) (W : Wr h h' a sl v) (q : b ≠ a) : BArr Z h' b ty n := by obtain ⟨f, A, r⟩ := A; exact ⟨f, A.other W q, r⟩
theorem BArr.keep {ws : List Addr} (A : BArr Z h a ty n) (K : Keep h h' ws) (q : a ∉ ws) : BArr Z h' a ty n := by obtain ⟨f, A, r⟩ := A; exact ⟨f, A.keep K q, r⟩
theorem IArr.barr (A : IArr Z h a ty n (fun _ => defaultValue ty)) : BArr Z h a ty n := ⟨_, A, fun i _ => by cases ty <;> rfl⟩
theorem fits_splice {g : Nat → Value} {n' i j k : Nat} (hfa : ∀ i, i < n → fits ty (f i) = true) (hfb : ∀ i, i < n' → fits ty (g i) = true) (h4 : i + k ≤ n) : ∀ q, q < n' → fits ty ((fun q => if j ≤ q ∧ q < j + k then f (i + (q - j)) else g q) q) = true := fun q hq => by
  dsimp only
  split
  · exact hfa _ (by omega)
  · exact hfb _ hq
theorem own_ladd {x y : Int64} (h1 : -9223372036854775808 ≤ x.toInt + y.toInt) (h2 : x.toInt + y.toInt < 9223372036854775808) : (x + y).toInt = x.toInt + y.toInt := by
  have a : ((x + y).toInt - (x.toInt + y.toInt)) % 18446744073709551616 = 0 := by rw [Int64.toInt_add]; exact bm64 _
  have r := rng64 (x + y)
  omega
theorem own_lmul {x y : Int64} (h1 : -9223372036854775808 ≤ x.toInt * y.toInt) (h2 : x.toInt * y.toInt < 9223372036854775808) : (x * y).toInt = x.toInt * y.toInt := by
  have a : ((x * y).toInt - (x.toInt * y.toInt)) % 18446744073709551616 = 0 := by rw [Int64.toInt_mul]; exact bm64 _
  have r := rng64 (x * y)
  omega
theorem W.newarrE (X : Stand p l e R s m args below meth c T locs cells slots) (hx : p.tables.exec = Jvm.exec) (hZ : Z.Warmed39 s.vm) {aty : ArrayType} {z : Int32} (pc' : Nat) (k cap : Nat) (ad : String) (w : (Jvm.Cond.arrayClass (newarray.typeOf aty)).before a0 Z = true) (eT : T.heap = h) (hd : decode c.code pc = .ok (.newarray aty, 2)) (had : "[" ++ (newarray.typeOf aty).toString = ad) (hz : z.toInt = (k : Int)) (hcap : k ≤ cap) (hb : cap * 8 ≤ 536870912) (hc : cells + 1 ≤ R.cells) (hl : slots + cap ≤ R.slots) (hp : pc + 2 = pc')
    (K : ∀ T' h' a, a = h.size → Stand p l e R s m args below meth c T' locs (cells + 1) (slots + cap) → T'.heap = h' → Ext h h' → IArr Z h' a (newarray.typeOf aty) k (fun _ => defaultValue (newarray.typeOf aty)) → Exa Z h' a ad → Wp p e s below Q kc ks (T'.setTop (mkF m pc' Ls (.ref a :: st)))) : Wp p e s below Q kc ks (T.setTop (mkF m pc Ls (.int z :: st))) := by
  subst hp
  obtain ⟨q1, q2⟩ := nat_of hz
  obtain ⟨T', h', cA, X', e', E, A, EA, stp⟩ := newPE X hx hZ w eT (g := mkF m pc Ls (.int z :: st)) rfl hd rfl q1 (cap := cap) (by omega) hb hc hl had
  exact Wp.step stp (K T' h' _ rfl X' e' E (IArr.fresh A q2) EA)
def TakesA (Z : State) (h : Heap) (a : Addr) (C : String) : Prop := ∃ (c : Cell) (t ty : FieldType), Arr Z h a c t ∧ OvrA Z c.cls ty C
theorem TakesA.lt {C : String} (F : TakesA Z h a C) : a < h.size := by obtain ⟨c, t, ty, A, -⟩ := F; exact A.lt
theorem TakesA.ext {C : String} (F : TakesA Z h a C) (E : Ext h h') : TakesA Z h' a C := by obtain ⟨c, t, ty, A, O⟩ := F; exact ⟨c, t, ty, A.ext E, O⟩
theorem TakesA.wr {C : String} {sl : Nat} {v : Value} (F : TakesA Z h a C) (W : Wr h h' b sl v) : TakesA Z h' a C := by
  obtain ⟨c, t, ty, A, O⟩ := F
  by_cases q : a = b
  · subst q; exact ⟨_, t, ty, A.same W, O⟩
  · exact ⟨c, t, ty, A.other W q, O⟩
theorem TakesA.keep {C : String} {ws : List Addr} (F : TakesA Z h a C) (K : Keep h h' ws) (q : a ∉ ws) : TakesA Z h' a C := by obtain ⟨c, t, ty, A, O⟩ := F; exact ⟨c, t, ty, ⟨K.2.1 a c A.1 q, A.2⟩, O⟩
theorem TakesA.sto {C : String} {y : Addr} (F : TakesA Z h a C) (I : Ins Z h y C true) : Sto Z h a (.ref y) := by obtain ⟨c, t, ty, A, O⟩ := F; exact Sto.ofVA A rfl O I
theorem W.newRA (X : Stand p l e R s m args below meth c T locs cells slots) (hx : p.tables.exec = Jvm.exec) (hZ : Z.Warmed39 s.vm) {own : String} {ty : FieldType} {index : Nat} {z : Int32} (pc' : Nat) (k cap : Nat) (C : String) (hown : s.vm.findClass own = some m.cls) (hC : (FieldType.array ty).toString = C) (w1 : (Jvm.Cond.classLink own index C).before a0 Z = true) (w2 : (Jvm.Cond.arrayOver (.array ty)).before a0 Z = true) (eT : T.heap = h) (hd : decode c.code pc = .ok (.anewarray index, 3)) (hz : z.toInt = (k : Int)) (hcap : k ≤ cap) (hb : cap * 8 ≤ 536870912) (hc : cells + 1 ≤ R.cells) (hl : slots + cap ≤ R.slots) (hp : pc + 3 = pc')
    (K : ∀ T' h' a, a = h.size → Stand p l e R s m args below meth c T' locs (cells + 1) (slots + cap) → T'.heap = h' → Ext h h' → IArr Z h' a (.array ty) k (fun _ => defaultValue (.array ty)) → TakesA Z h' a C → Wp p e s below Q kc ks (T'.setTop (mkF m pc' Ls (.ref a :: st)))) : Wp p e s below Q kc ks (T.setTop (mkF m pc Ls (.int z :: st))) := by
  subst hp
  obtain ⟨q1, q2⟩ := nat_of hz
  obtain ⟨T', h', cA, X', e', E, A, -, O, stp⟩ := Jvm.RoadKit.newRA X hx hZ hown hC w1 w2 eT (g := mkF m pc Ls (.int z :: st)) rfl hd rfl q1 (cap := cap) (by omega) hb hc hl rfl
  exact Wp.step stp (K T' h' _ rfl X' e' E (IArr.fresh A q2) ⟨_, _, _, A, O⟩)
end W
end Jvm.OwnW
namespace Jvm.Pilot.@@N@@
open Jvm Jvm.ClassFile Sem Op Lib Jvm.Free Jvm.Stand Jvm.LawKit Jvm.RoadKit Jvm.OwnW Bundle Jvm.Pilot.@@N@@.Jvm.D
theorem pd_0 : parseMethodDescriptor "(II)I" = some ⟨[.int, .int], some .int⟩ := by decide +kernel
theorem pd_1 : parseMethodDescriptor "([Ljava/lang/Object;Ljava/lang/Object;)V" = some ⟨[(.array (.object "java/lang/Object")), (.object "java/lang/Object")], none⟩ := by decide +kernel
theorem pd_2 : parseMethodDescriptor "(J)I" = some ⟨[.long], some .int⟩ := by decide +kernel
theorem pd_3 : parseMethodDescriptor "([JI)[J" = some ⟨[(.array .long), .int], some (.array .long)⟩ := by decide +kernel
theorem pd_4 : parseMethodDescriptor "(JJ)J" = some ⟨[.long, .long], some .long⟩ := by decide +kernel
theorem pd_5 : parseMethodDescriptor "(J)V" = some ⟨[.long], none⟩ := by decide +kernel
theorem pd_6 : parseMethodDescriptor "(I)J" = some ⟨[.int], some .long⟩ := by decide +kernel
theorem pd_7 : parseMethodDescriptor "(JJ)V" = some ⟨[.long, .long], none⟩ := by decide +kernel
theorem pd_8 : parseMethodDescriptor "(II)J" = some ⟨[.int, .int], some .long⟩ := by decide +kernel
def own_ent (q : Int32) (g : Int64) : Int64 := (g <<< ((6 : Int32) &&& 0x3f).toInt64) ||| (q.toInt64 &&& 63)
theorem own_low (q : Int32) (g : Int64) : ((own_ent q g).toInt32 &&& 0x3f) = ((q &&& 63) &&& 0x3f) := by
  apply Int32.toBitVec_inj.mp
  rw [Int32.toBitVec_and, Int32.toBitVec_and, Int32.toBitVec_and]
  show (((g.toBitVec <<< (6 : Nat)) ||| (q.toBitVec.signExtend 64 &&& 63#64)).signExtend 32) &&& 63#32 = (q.toBitVec &&& 63#32) &&& 63#32
  apply BitVec.eq_of_getLsbD_eq
  intro i hi
  have ff : ∀ i : Nat, i < 32 → (63#32).getLsbD i = decide (i < 6) := by decide
  have fg : ∀ i : Nat, i < 32 → (63#64).getLsbD i = decide (i < 6) := by decide
  rw [BitVec.getLsbD_and, BitVec.getLsbD_and, BitVec.getLsbD_and, BitVec.getLsbD_signExtend, ff i hi]
  by_cases h : i < 6
  · have h64 : i < 64 := by omega
    rw [if_pos h64, BitVec.getLsbD_or, BitVec.getLsbD_shiftLeft, BitVec.getLsbD_and, fg i hi, BitVec.getLsbD_signExtend]
    simp [h, hi, h64]
  · simp [h]
theorem own_blk : ∀ n : Nat, n < 128 → (((Int32.ofNat n).toInt64.toUInt64 >>> ((6 : Int32) &&& 0x3f).toInt64.toUInt64).toInt64).toInt32 = Int32.ofNat (n / 64) := by decide
theorem own_blk2 : ∀ n : Nat, n < 128 → ((Int32.ofNat n).toUInt32 >>> ((6 : Int32) &&& 31).toUInt32).toInt32 = Int32.ofNat (n / 64) := by decide
/-- the bit of an entry -/
def own_sl (x : Int64) : Int64 := (1 : Int64) <<< (x.toInt32 &&& 0x3f).toInt64
def own_bq (n : Nat) : Int64 := (1 : Int64) <<< ((Int32.ofNat n &&& 63) &&& 0x3f).toInt64
theorem own_sle (n : Nat) (g : Int64) : own_sl (own_ent (Int32.ofNat n) g) = own_bq n := by unfold own_sl own_bq; rw [own_low]
def own_or (a : Int64) : List Int64 → Int64
  | [] => a
  | x :: r => own_or (a ||| own_sl x) r
def own_bit (n k : Nat) : Int64 := if k = n / 64 then own_bq n else 0
theorem own_f2 {f : Nat → Value} {v : Value} : ∀ j, j < 2 → (fun _ => v) j = upd (upd f 0 v) 1 v j := fun j hj => by
  have c : j = 0 ∨ j = 1 := by omega
  rcases c with rfl | rfl <;> rfl
def own_lf (xs : List Int64) : Nat → Value := fun j => .long (xs.getD j 0)
def LArr (Z : State) (h : Heap) (a : Addr) (xs : List Int64) : Prop := IArr Z h a .long xs.length (own_lf xs) ∧ Exa Z h a "[J"
/-- a store of two blocks -/
def FS (Z : State) (h : Heap) (o bl : Addr) (bs : Nat → Addr) (xs : Nat → List Int64) : Prop :=
  Exa Z h o "com/example/camf/camf/FingerprintStore" ∧ Fld Z h o "com/example/camf/camf/FingerprintStore" "blocks" "[[J" (.ref bl) ∧ IArr Z h bl (.array .long) 2 (fun j => .ref (bs j)) ∧ TakesA Z h bl "[J" ∧ (∀ k, k < 2 → LArr Z h (bs k) (xs k) ∧ bs k ≠ bl) ∧ o ≠ bl
theorem LArr.keep {Z : State} {h h' : Heap} {a : Addr} {xs : List Int64} {ws : List Addr} (A : LArr Z h a xs) (K : Keep h h' ws) (q : a ∉ ws) : LArr Z h' a xs := ⟨A.1.keep K q, A.2.keep K⟩
theorem LArr.ext {Z : State} {h h' : Heap} {a : Addr} {xs : List Int64} (A : LArr Z h a xs) (E : Ext h h') : LArr Z h' a xs := ⟨A.1.ext E, A.2.ext E⟩
theorem LArr.wr {Z : State} {h h' : Heap} {a b : Addr} {xs : List Int64} {sl : Nat} {v : Value} (A : LArr Z h a xs) (W : Wr h h' b sl v) (q : a ≠ b) : LArr Z h' a xs := ⟨A.1.other W q, A.2.wr W⟩
theorem own_more (xs : List Int64) (e : Int64) (j : Nat) (hj : j < (xs ++ [e]).length) : own_lf (xs ++ [e]) j = upd (fun q => if 0 ≤ q ∧ q < 0 + xs.length then own_lf xs (0 + (q - 0)) else defaultValue .long) xs.length (.long e) j := by
  rw [List.length_append] at hj
  by_cases q : j = xs.length
  · subst q; rw [upd_same]; simp [own_lf]
  · rw [upd_ne q]
    have l : j < xs.length := by simp at hj; omega
    simp [own_lf, l, List.getElem?_append_left l]
theorem own_lt {n m : Nat} (hn : n < 100000) (hm : m < 100000) : Int32.ofNat n < Int32.ofNat m ↔ n < m := by
  rw [Int32.lt_iff_toInt_lt, own_ofNat (by omega), own_ofNat (by omega)]; omega
theorem own_oadd {n m : Nat} (hn : n < 100000) (hm : m < 100000) : Int32.ofNat n + Int32.ofNat m = Int32.ofNat (n + m) := by
  apply Int32.toInt_inj.mp
  rw [own_add, own_ofNat (by omega), own_ofNat (by omega), own_ofNat (by omega)]; omega
  all_goals (rw [own_ofNat (by omega), own_ofNat (by omega)]; omega)
theorem own_osub {n m : Nat} (hn : n < 100000) (hm : m ≤ n) : Int32.ofNat n - Int32.ofNat m = Int32.ofNat (n - m) := by
  apply Int32.toInt_inj.mp
  rw [own_sub, own_ofNat (by omega), own_ofNat (by omega), own_ofNat (by omega)]; omega
  all_goals (rw [own_ofNat (by omega), own_ofNat (by omega)]; omega)
theorem own_int {args : Array Value} {s : State} {t : Term} {k : Int32} (h : (Jvm.Cond.eq t (.int k)).value args s none s [] = some true) : t.eval args s none [] s = some (.int k) := by
  obtain ⟨x, y, hx, hy, k1, k2⟩ := cmp_v (Or.inl h)
  obtain rfl : y = .int k := by simpa [Term.eval] using hy.symm
  obtain ⟨z, rfl⟩ : ∃ z, x = .int z := k2
  have q : z = k := gotT (Cond.eq_ints hx hy) h
  subst q
  exact hx
theorem own_len {args : Array Value} {s : State} {t : Term} {a : Addr} {cl : Cell} {n : Nat} {ty : FieldType} (hn : n < 100) (ht : t.eval args s none [] s = some (.ref a)) (A : Arr s s.heap a cl ty) (h2 : (Jvm.Cond.eq (.length t) (.int (Int32.ofNat n))).value args s none s [] = some true) : cl.slots.size = n := by
  have e := own_int h2
  have ha : s.arrayAt? a = some cl := A.fin (Vm.Alike.refl _)
  simp only [Term.eval, ht, ha, Option.bind_eq_bind, Option.bind_some] at e
  split at e
  · rename_i q
    have e' : cl.slots.size.toInt32 = Int32.ofNat n := by simpa using e
    have r1 := len_toInt q
    have r2 := own_ofNat (n := n) (by omega)
    rw [e'] at r1
    omega
  · cases e
theorem d8_0 : decode jdk_29_method_69_code 0 = .ok (.iload_n 0, 1) := by decide +kernel
theorem d8_1 : decode jdk_29_method_69_code 1 = .ok (.iload_n 1, 1) := by decide +kernel
theorem d8_2 : decode jdk_29_method_69_code 2 = .ok (.if_icmp .gt 7, 3) := by decide +kernel
theorem d8_5 : decode jdk_29_method_69_code 5 = .ok (.iload_n 0, 1) := by decide +kernel
theorem d8_6 : decode jdk_29_method_69_code 6 = .ok (.goto 4, 3) := by decide +kernel
theorem d8_9 : decode jdk_29_method_69_code 9 = .ok (.iload_n 1, 1) := by decide +kernel
theorem d8_10 : decode jdk_29_method_69_code 10 = .ok (.ireturn, 1) := by decide +kernel
theorem ef_rm8 (m : MethodId) (p1 : Int32) (p2 : Int32) : entryFrame m #[(.int p1), (.int p2)] 2 = mkF m 0 #[.val (.int p1), .val (.int p2)] [] := by first | (simp [entryFrame, mkF, argsToLocals, Value.category]; done) | rfl
set_option maxRecDepth 65536 in
set_option maxHeartbeats 40000000 in
theorem rm8 (l : Launch) (Z : State) (a0 : Array Value) (hw : ∀ d ∈ tables_1, d.before a0 Z = true) (p1 p2 : Int32) (h0 : Heap)  :
    Con l Z (⟨"java/lang/Math", "min", "(II)I"⟩ : MethodName) jdk_29_method_69_code 2 (some .int) [] ({ frames := 0, cells := 0, slots := 0, locals := 0 } : Room) #[(.int p1), (.int p2)] h0 (fun v h L => v = some (.int (if p2 < p1 then p2 else p1)) ∧ h = h0 ∧ L = []) := by
  refine Con.of (by decide +kernel) ?_
  intro p e s m below meth c s₁ hx hby hml hown hnm hret hlk hZ X0 e0
  refine Wp.enter (ef_rm8 m p1 p2) ?_
  refine W.iloadN X0 hx 1 (hb hby d8_0) rfl rfl ?_
  refine W.iloadN X0 hx 2 (hb hby d8_1) rfl rfl ?_
  refine W.icmpGt X0 hx 9 5 (hb hby d8_2) (by decide) (by decide) rfl (fun q => ?_) (fun q => ?_)
  · skip
    refine W.iloadN X0 hx 10 (hb hby d8_9) rfl rfl ?_
    refine W.iret X0 hx hlk hret (hb hby d8_10) (by decide) (by decide) ?_
    exact ⟨by rw [if_pos q], e0, rfl⟩
  · skip
    refine W.iloadN X0 hx 6 (hb hby d8_5) rfl rfl ?_
    refine W.goto X0 hx 10 (hb hby d8_6) (by decide) (by decide) ?_
    refine W.iret X0 hx hlk hret (hb hby d8_10) (by decide) (by decide) ?_
    exact ⟨by rw [if_neg q], e0, rfl⟩
theorem d7_0 : decode jdk_65_method_124_code 0 = .ok (.iload_n 1, 1) := by decide +kernel
theorem d7_1 : decode jdk_65_method_124_code 1 = .ok (.aload_n 0, 1) := by decide +kernel
theorem d7_2 : decode jdk_65_method_124_code 2 = .ok (.arraylength, 1) := by decide +kernel
theorem d7_3 : decode jdk_65_method_124_code 3 = .ok (.if_icmp .ne 11, 3) := by decide +kernel
theorem d7_6 : decode jdk_65_method_124_code 6 = .ok (.aload_n 0, 1) := by decide +kernel
theorem d7_7 : decode jdk_65_method_124_code 7 = .ok (.invokevirtual 319, 3) := by decide +kernel
theorem d7_10 : decode jdk_65_method_124_code 10 = .ok (.checkcast 320, 3) := by decide +kernel
theorem d7_13 : decode jdk_65_method_124_code 13 = .ok (.areturn, 1) := by decide +kernel
theorem d7_14 : decode jdk_65_method_124_code 14 = .ok (.iload_n 1, 1) := by decide +kernel
theorem d7_15 : decode jdk_65_method_124_code 15 = .ok (.newarray .long, 2) := by decide +kernel
theorem d7_17 : decode jdk_65_method_124_code 17 = .ok (.astore_n 2, 1) := by decide +kernel
theorem d7_18 : decode jdk_65_method_124_code 18 = .ok (.aload_n 0, 1) := by decide +kernel
theorem d7_19 : decode jdk_65_method_124_code 19 = .ok (.iconst 0, 1) := by decide +kernel
theorem d7_20 : decode jdk_65_method_124_code 20 = .ok (.aload_n 2, 1) := by decide +kernel
theorem d7_21 : decode jdk_65_method_124_code 21 = .ok (.iconst 0, 1) := by decide +kernel
theorem d7_22 : decode jdk_65_method_124_code 22 = .ok (.aload_n 0, 1) := by decide +kernel
theorem d7_23 : decode jdk_65_method_124_code 23 = .ok (.arraylength, 1) := by decide +kernel
theorem d7_24 : decode jdk_65_method_124_code 24 = .ok (.iload_n 1, 1) := by decide +kernel
theorem d7_25 : decode jdk_65_method_124_code 25 = .ok (.invokestatic 304, 3) := by decide +kernel
theorem d7_28 : decode jdk_65_method_124_code 28 = .ok (.invokestatic 150, 3) := by decide +kernel
theorem d7_31 : decode jdk_65_method_124_code 31 = .ok (.aload_n 2, 1) := by decide +kernel
theorem d7_32 : decode jdk_65_method_124_code 32 = .ok (.areturn, 1) := by decide +kernel
theorem pn_7 : plainName "java/util/Arrays" = true := by first | (simp [plainName, overriddenIn]; done) | decide +kernel
theorem ef_rmcp (m : MethodId) (bb : Addr) (mz : Nat) : entryFrame m #[(.ref bb), (.int (Int32.ofNat mz))] 3 = mkF m 0 #[.val (.ref bb), .val (.int (Int32.ofNat mz)), .unset] [] := by first | (simp [entryFrame, mkF, argsToLocals, Value.category]; done) | rfl
set_option maxRecDepth 65536 in
set_option maxHeartbeats 40000000 in
theorem rmcp (l : Launch) (Z : State) (a0 : Array Value) (hw : ∀ d ∈ tables_1, d.before a0 Z = true) (bb : Addr) (cap mz : Nat) (f : Nat → Value) (h0 : Heap) (n0 : Nat) (Z0 : n0 ≤ h0.size) (A : IArr Z h0 bb .long cap f) (hfa : ∀ i, i < cap → fits .long (f i) = true) (h1 : cap < mz) (h2 : mz ≤ 8) :
    Con l Z (⟨"java/util/Arrays", "copyOf", "([JI)[J"⟩ : MethodName) jdk_65_method_124_code 3 (some (.array .long)) [] ({ frames := 1, cells := 1, slots := 8, locals := 40 } : Room) #[(.ref bb), (.int (Int32.ofNat mz))] h0 (fun v h L => ∃ r : Addr, v = some (.ref r) ∧ r = h0.size ∧ Fr n0 L ∧ Keep h0 h [] ∧ IArr Z h r .long mz (fun q => if 0 ≤ q ∧ q < 0 + cap then f (0 + (q - 0)) else defaultValue .long) ∧ Exa Z h r "[J") := by
  refine Con.of (plainFor_of_name pn_7) ?_
  intro p e s m below meth c s₁ hx hby hml hown hnm hret hlk hZ X0 e0
  refine Wp.enter (ef_rmcp m bb mz) ?_
  refine W.iloadN X0 hx 1 (hb hby d7_0) rfl rfl ?_
  refine W.aloadN X0 hx 2 (hb hby d7_1) rfl rfl rfl ?_
  refine W.arrlen X0 hx hZ 3 e0 A (Int32.ofNat cap) rfl (hb hby d7_2) rfl ?_
  refine W.icmpNe X0 hx 14 6 (hb hby d7_3) (by decide) (by decide) rfl (fun q => ?_) (fun q => ?_)
  · skip
    refine W.iloadN X0 hx 15 (hb hby d7_14) rfl rfl ?_
    refine W.newarrE X0 hx hZ 17 mz 8 "[J" (hw _ (List.mem_of_getElem? (i := 40) rfl)) e0 (hb hby d7_15) (by decide) (own_ofNat (by omega)) h2 (by decide) (by decide) (by decide) rfl ?_
    intro T1 h1 r q1 X1 e1 E1 B ER
    have ne_bb_r : bb ≠ r := fun q => by have := A.lt; rw [q, q1] at this; exact Nat.lt_irrefl _ this
    have ge_r : n0 ≤ r := by have := Z0; omega
    have A := A.ext E1
    have z1 : n0 ≤ h1.size := Nat.le_trans Z0 E1.1
    refine W.astoreN X1 hx 18 #[.val (.ref bb), .val (.int (Int32.ofNat mz)), .val (.ref r)] (hb hby d7_17) rfl rfl rfl ?_
    refine W.aloadN X1 hx 19 (hb hby d7_18) rfl rfl rfl ?_
    refine W.iconst X1 hx 20 (0 : Int32) (hb hby d7_19) rfl rfl ?_
    refine W.aloadN X1 hx 21 (hb hby d7_20) rfl rfl rfl ?_
    refine W.iconst X1 hx 22 (0 : Int32) (hb hby d7_21) rfl rfl ?_
    refine W.aloadN X1 hx 23 (hb hby d7_22) rfl rfl rfl ?_
    refine W.arrlen X1 hx hZ 24 e1 A (Int32.ofNat cap) rfl (hb hby d7_23) rfl ?_
    refine W.iloadN X1 hx 25 (hb hby d7_24) rfl rfl ?_
    refine W.callS X1 hx hZ 28 4 [(.int (Int32.ofNat cap)), (.int (Int32.ofNat mz))] hown (hw _ (List.mem_of_getElem? (i := 41) rfl)) (hw _ (List.mem_of_getElem? (i := 42) rfl)) (hw _ (List.mem_of_getElem? (i := 43) rfl)) (hw _ (List.mem_of_getElem? (i := 44) rfl)) (by decide) pd_0 rfl e1 (rm8 l Z a0 hw (Int32.ofNat cap) (Int32.ofNat mz) h1) (hb hby d7_25) (by rw [hml]; rfl) rfl rfl (by decide) (by decide) (by decide) (by decide) rfl ?_
    rintro v2 T2 L2 X2 ⟨rfl, e2, rfl⟩
    rw [if_neg (fun q => by rw [own_lt (by omega) (by omega)] at q; omega)]
    refine W.acopy X2 hx hZ 31 0 0 0 cap hown (hw _ (List.mem_of_getElem? (i := 45) rfl)) (hw _ (List.mem_of_getElem? (i := 48) rfl)) (hw _ (List.mem_of_getElem? (i := 46) rfl)) (hw _ (List.mem_of_getElem? (i := 47) rfl)) e2 A B rfl hfa (fun i _ => rfl) (by decide) (by decide) (own_ofNat (by omega)) (by omega) (by omega) (by omega) (by omega) (Fr.app (Fr.nil _) (Fr.nil _)) ge_r (by rw [hml]; rfl) (hb hby d7_28) (by decide) rfl (by decide) rfl ?_
    intro T3 h3 L3 X3 e3 N3 K3 B
    have A := A.keep K3 (ninS ne_bb_r nin0)
    have ER := ER.keep K3
    have z3 : n0 ≤ h3.size := Nat.le_trans z1 K3.1
    refine W.aloadN X3 hx 32 (hb hby d7_31) rfl rfl rfl ?_
    refine W.aret X3 hx hlk hret rfl rfl (hb hby d7_32) (by decide) (by decide) ?_
    rw [e3]
    exact ⟨r, rfl, q1, N3, (((Keep.refl _ _).ext E1).trans K3 (allS (Or.inr (Nat.le_of_eq q1.symm)) all0)), B, ER⟩
  · exact absurd q (fun z => by have := congrArg Int32.toInt z; rw [own_ofNat (by omega), own_ofNat (by omega)] at this; omega)
theorem d3_0 : decode jdk_65_method_117_code 0 = .ok (.iconst 0, 1) := by decide +kernel
theorem d3_1 : decode jdk_65_method_117_code 1 = .ok (.istore_n 2, 1) := by decide +kernel
theorem d3_2 : decode jdk_65_method_117_code 2 = .ok (.aload_n 0, 1) := by decide +kernel
theorem d3_3 : decode jdk_65_method_117_code 3 = .ok (.arraylength, 1) := by decide +kernel
theorem d3_4 : decode jdk_65_method_117_code 4 = .ok (.istore_n 3, 1) := by decide +kernel
theorem d3_5 : decode jdk_65_method_117_code 5 = .ok (.iload_n 2, 1) := by decide +kernel
theorem d3_6 : decode jdk_65_method_117_code 6 = .ok (.iload_n 3, 1) := by decide +kernel
theorem d3_7 : decode jdk_65_method_117_code 7 = .ok (.if_icmp .ge 13, 3) := by decide +kernel
theorem d3_10 : decode jdk_65_method_117_code 10 = .ok (.aload_n 0, 1) := by decide +kernel
theorem d3_11 : decode jdk_65_method_117_code 11 = .ok (.iload_n 2, 1) := by decide +kernel
theorem d3_12 : decode jdk_65_method_117_code 12 = .ok (.aload_n 1, 1) := by decide +kernel
theorem d3_13 : decode jdk_65_method_117_code 13 = .ok (.aastore, 1) := by decide +kernel
theorem d3_14 : decode jdk_65_method_117_code 14 = .ok (.iinc 2 1, 3) := by decide +kernel
theorem d3_17 : decode jdk_65_method_117_code 17 = .ok (.goto (-12), 3) := by decide +kernel
theorem d3_20 : decode jdk_65_method_117_code 20 = .ok (.return_, 1) := by decide +kernel
theorem pn_3 : plainName "java/util/Arrays" = true := by first | (simp [plainName, overriddenIn]; done) | decide +kernel
theorem ef_rmfill (m : MethodId) (bl : Addr) (em : Addr) : entryFrame m #[(.ref bl), (.ref em)] 4 = mkF m 0 #[.val (.ref bl), .val (.ref em), .unset, .unset] [] := by first | (simp [entryFrame, mkF, argsToLocals, Value.category]; done) | rfl
set_option maxRecDepth 65536 in
set_option maxHeartbeats 40000000 in
theorem rmfill (l : Launch) (Z : State) (a0 : Array Value) (hw : ∀ d ∈ tables_1, d.before a0 Z = true) (bl em : Addr) (f : Nat → Value) (h0 : Heap) (n0 : Nat) (Z0 : n0 ≤ h0.size) (A : IArr Z h0 bl (.array .long) 2 f) (TA : TakesA Z h0 bl "[J") (E : Exa Z h0 em "[J") (ge_bl : n0 ≤ bl) :
    Con l Z (⟨"java/util/Arrays", "fill", "([Ljava/lang/Object;Ljava/lang/Object;)V"⟩ : MethodName) jdk_65_method_117_code 4 none [] ({ frames := 0, cells := 0, slots := 0, locals := 0 } : Room) #[(.ref bl), (.ref em)] h0 (fun v h L => v = none ∧ Fr n0 L ∧ Keep h0 h [bl] ∧ IArr Z h bl (.array .long) 2 (fun _ => .ref em) ∧ TakesA Z h bl "[J") := by
  refine Con.of (plainFor_of_name pn_3) ?_
  intro p e s m below meth c s₁ hx hby hml hown hnm hret hlk hZ X0 e0
  refine Wp.enter (ef_rmfill m bl em) ?_
  have KP : Keep h0 h0 [bl] := Keep.refl _ _
  refine W.iconst X0 hx 1 (0 : Int32) (hb hby d3_0) rfl rfl ?_
  refine W.istoreN X0 hx 2 #[.val (.ref bl), .val (.ref em), .val (.int (0 : Int32)), .unset] (hb hby d3_1) rfl rfl ?_
  refine W.aloadN X0 hx 3 (hb hby d3_2) rfl rfl rfl ?_
  refine W.arrlen X0 hx hZ 4 e0 A (2 : Int32) rfl (hb hby d3_3) rfl ?_
  refine W.istoreN X0 hx 5 #[.val (.ref bl), .val (.ref em), .val (.int (0 : Int32)), .val (.int (2 : Int32))] (hb hby d3_4) rfl rfl ?_
  refine W.iloadN X0 hx 6 (hb hby d3_5) rfl rfl ?_
  refine W.iloadN X0 hx 7 (hb hby d3_6) rfl rfl ?_
  skip
  refine W.icmpGe X0 hx 20 10 (hb hby d3_7) (by decide) (by decide) rfl (fun q => ?_) (fun q => ?_)
  · exact absurd (by decide) q
  · skip
    refine W.aloadN X0 hx 11 (hb hby d3_10) rfl rfl rfl ?_
    refine W.iloadN X0 hx 12 (hb hby d3_11) rfl rfl ?_
    refine W.aloadN X0 hx 13 (hb hby d3_12) rfl rfl rfl ?_
    refine W.aastore X0 hx hZ 14 0 e0 A rfl (TA.sto (Ins.self E)) (by decide) (by decide) (hb hby d3_13) rfl ?_
    intro T1 h1 X1 e1 W1 A
    have TA := TA.wr W1
    have E := E.wr W1
    have z1 : n0 ≤ h1.size := by rw [W1.size]; exact Z0
    have KP := KP.wr W1 (by first | exact Or.inl (by simp) | exact Or.inr gx_bl)
    refine W.iinc X1 hx 17 (1 : Int32) #[.val (.ref bl), .val (.ref em), .val (.int ((0 : Int32) + (1 : Int32))), .val (.int (2 : Int32))] (hb hby d3_14) rfl rfl rfl rfl ?_
    refine W.goto X1 hx 5 (hb hby d3_17) (by decide) (by decide) ?_
    refine W.iloadN X1 hx 6 (hb hby d3_5) rfl rfl ?_
    refine W.iloadN X1 hx 7 (hb hby d3_6) rfl rfl ?_
    skip
    refine W.icmpGe X1 hx 20 10 (hb hby d3_7) (by decide) (by decide) rfl (fun q => ?_) (fun q => ?_)
    · exact absurd (by decide) q
    · skip
      refine W.aloadN X1 hx 11 (hb hby d3_10) rfl rfl rfl ?_
      refine W.iloadN X1 hx 12 (hb hby d3_11) rfl rfl ?_
      refine W.aloadN X1 hx 13 (hb hby d3_12) rfl rfl rfl ?_
      refine W.aastore X1 hx hZ 14 1 e1 A rfl (TA.sto (Ins.self E)) (by decide) (by decide) (hb hby d3_13) rfl ?_
      intro T2 h2 X2 e2 W2 A
      have TA := TA.wr W2
      have E := E.wr W2
      have z2 : n0 ≤ h2.size := by rw [W2.size]; exact z1
      have KP := KP.wr W2 (by first | exact Or.inl (by simp) | exact Or.inr gx_bl)
      refine W.iinc X2 hx 17 (1 : Int32) #[.val (.ref bl), .val (.ref em), .val (.int (((0 : Int32) + (1 : Int32)) + (1 : Int32))), .val (.int (2 : Int32))] (hb hby d3_14) rfl rfl rfl rfl ?_
      refine W.goto X2 hx 5 (hb hby d3_17) (by decide) (by decide) ?_
      refine W.iloadN X2 hx 6 (hb hby d3_5) rfl rfl ?_
      refine W.iloadN X2 hx 7 (hb hby d3_6) rfl rfl ?_
      skip
      refine W.icmpGe X2 hx 20 10 (hb hby d3_7) (by decide) (by decide) rfl (fun q => ?_) (fun q => ?_)
      · skip
        refine W.vret X2 hx hlk hret (hb hby d3_20) (by decide) (by decide) ?_
        rw [e2]
        exact ⟨rfl, (Fr.app (Fr.app (Fr.nil _) (fr1 ge_bl)) (fr1 ge_bl)), KP, A.cong own_f2, TA⟩
      · exact absurd q (by decide)
theorem d6_0 : decode prog_13_method_16_code 0 = .ok (.lload_n 0, 1) := by decide +kernel
theorem d6_1 : decode prog_13_method_16_code 1 = .ok (.bipush 6, 2) := by decide +kernel
theorem d6_3 : decode prog_13_method_16_code 3 = .ok (.lushr, 1) := by decide +kernel
theorem d6_4 : decode prog_13_method_16_code 4 = .ok (.l2i, 1) := by decide +kernel
theorem d6_5 : decode prog_13_method_16_code 5 = .ok (.ireturn, 1) := by decide +kernel
theorem pn_6 : plainName "com/example/camf/camf/FingerprintStore" = true := by first | (simp [plainName, overriddenIn]; done) | decide +kernel
theorem ef_rm6 (m : MethodId) (nq : Nat) : entryFrame m #[(.long (Int32.ofNat nq).toInt64)] 2 = mkF m 0 #[.val (.long (Int32.ofNat nq).toInt64), .second] [] := by first | (simp [entryFrame, mkF, argsToLocals, Value.category]; done) | rfl
set_option maxRecDepth 65536 in
set_option maxHeartbeats 40000000 in
theorem rm6 (l : Launch) (Z : State) (a0 : Array Value) (hw : ∀ d ∈ tables_1, d.before a0 Z = true) (nq : Nat) (h0 : Heap) (hq : nq < 128) :
    Con l Z (⟨"com/example/camf/camf/FingerprintStore", "blockOf", "(J)I"⟩ : MethodName) prog_13_method_16_code 2 (some .int) [] ({ frames := 0, cells := 0, slots := 0, locals := 0 } : Room) #[(.long (Int32.ofNat nq).toInt64)] h0 (fun v h L => v = some (.int (Int32.ofNat (nq / 64))) ∧ h = h0 ∧ L = []) := by
  refine Con.of (plainFor_of_name pn_6) ?_
  intro p e s m below meth c s₁ hx hby hml hown hnm hret hlk hZ X0 e0
  refine Wp.enter (ef_rm6 m nq) ?_
  refine W.lloadN X0 hx 1 (hb hby d6_0) rfl rfl ?_
  refine W.bipush X0 hx 3 (6 : Int32) (hb hby d6_1) rfl rfl ?_
  refine W.lushr X0 hx 4 (hb hby d6_3) rfl ?_
  refine W.l2i X0 hx 5 (hb hby d6_4) rfl ?_
  refine W.iret X0 hx hlk hret (hb hby d6_5) (by decide) (by decide) ?_
  exact ⟨by rw [own_blk nq hq], e0, rfl⟩
theorem d9_0 : decode prog_13_method_18_code 0 = .ok (.lload_n 2, 1) := by decide +kernel
theorem d9_1 : decode prog_13_method_18_code 1 = .ok (.bipush 6, 2) := by decide +kernel
theorem d9_3 : decode prog_13_method_18_code 3 = .ok (.lshl, 1) := by decide +kernel
theorem d9_4 : decode prog_13_method_18_code 4 = .ok (.lload_n 0, 1) := by decide +kernel
theorem d9_5 : decode prog_13_method_18_code 5 = .ok (.ldc2_w 76, 3) := by decide +kernel
theorem d9_8 : decode prog_13_method_18_code 8 = .ok (.land, 1) := by decide +kernel
theorem d9_9 : decode prog_13_method_18_code 9 = .ok (.lor, 1) := by decide +kernel
theorem d9_10 : decode prog_13_method_18_code 10 = .ok (.lreturn, 1) := by decide +kernel
theorem pn_9 : plainName "com/example/camf/camf/FingerprintStore" = true := by first | (simp [plainName, overriddenIn]; done) | decide +kernel
theorem ef_rm9 (m : MethodId) (nq : Nat) (g : Int64) : entryFrame m #[(.long (Int32.ofNat nq).toInt64), (.long g)] 4 = mkF m 0 #[.val (.long (Int32.ofNat nq).toInt64), .second, .val (.long g), .second] [] := by first | (simp [entryFrame, mkF, argsToLocals, Value.category]; done) | rfl
set_option maxRecDepth 65536 in
set_option maxHeartbeats 40000000 in
theorem rm9 (l : Launch) (Z : State) (a0 : Array Value) (hw : ∀ d ∈ tables_1, d.before a0 Z = true) (nq : Nat) (g : Int64) (h0 : Heap)  :
    Con l Z (⟨"com/example/camf/camf/FingerprintStore", "entryOf", "(JJ)J"⟩ : MethodName) prog_13_method_18_code 4 (some .long) [] ({ frames := 0, cells := 0, slots := 0, locals := 0 } : Room) #[(.long (Int32.ofNat nq).toInt64), (.long g)] h0 (fun v h L => v = some (.long (own_ent (Int32.ofNat nq) g)) ∧ h = h0 ∧ L = []) := by
  refine Con.of (plainFor_of_name pn_9) ?_
  intro p e s m below meth c s₁ hx hby hml hown hnm hret hlk hZ X0 e0
  refine Wp.enter (ef_rm9 m nq g) ?_
  refine W.lloadN X0 hx 1 (hb hby d9_0) rfl rfl ?_
  refine W.bipush X0 hx 3 (6 : Int32) (hb hby d9_1) rfl rfl ?_
  refine W.lshl X0 hx 4 (hb hby d9_3) rfl ?_
  refine W.lloadN X0 hx 5 (hb hby d9_4) rfl rfl ?_
  refine W.ldcL X0 hx hZ 8 hown (hw _ (List.mem_of_getElem? (i := 52) rfl)) (hb hby d9_5) rfl ?_
  refine W.land X0 hx 9 (hb hby d9_8) rfl ?_
  refine W.lor X0 hx 10 (hb hby d9_9) rfl ?_
  refine W.lret X0 hx hlk hret (hb hby d9_10) (by decide) (by decide) ?_
  exact ⟨rfl, e0, rfl⟩
theorem d10_0 : decode method_3_code 0 = .ok (.iload_n 0, 1) := by decide +kernel
theorem d10_1 : decode method_3_code 1 = .ok (.bipush 6, 2) := by decide +kernel
theorem d10_3 : decode method_3_code 3 = .ok (.iushr, 1) := by decide +kernel
theorem d10_4 : decode method_3_code 4 = .ok (.iload_n 1, 1) := by decide +kernel
theorem d10_5 : decode method_3_code 5 = .ok (.if_icmp .ne 12, 3) := by decide +kernel
theorem d10_8 : decode method_3_code 8 = .ok (.lconst 1, 1) := by decide +kernel
theorem d10_9 : decode method_3_code 9 = .ok (.iload_n 0, 1) := by decide +kernel
theorem d10_10 : decode method_3_code 10 = .ok (.bipush 63, 2) := by decide +kernel
theorem d10_12 : decode method_3_code 12 = .ok (.iand, 1) := by decide +kernel
theorem d10_13 : decode method_3_code 13 = .ok (.lshl, 1) := by decide +kernel
theorem d10_14 : decode method_3_code 14 = .ok (.goto 4, 3) := by decide +kernel
theorem d10_17 : decode method_3_code 17 = .ok (.lconst 0, 1) := by decide +kernel
theorem d10_18 : decode method_3_code 18 = .ok (.lreturn, 1) := by decide +kernel
theorem pn_10 : plainName "com/example/camf/camf/FingerprintStoreHeldMaskPinLaw" = true := by first | (simp [plainName, overriddenIn]; done) | decide +kernel
theorem ef_rm10 (m : MethodId) (nq : Nat) (kb : Nat) : entryFrame m #[(.int (Int32.ofNat nq)), (.int (Int32.ofNat kb))] 2 = mkF m 0 #[.val (.int (Int32.ofNat nq)), .val (.int (Int32.ofNat kb))] [] := by first | (simp [entryFrame, mkF, argsToLocals, Value.category]; done) | rfl
set_option maxRecDepth 65536 in
set_option maxHeartbeats 40000000 in
theorem rm10 (l : Launch) (Z : State) (a0 : Array Value) (hw : ∀ d ∈ tables_1, d.before a0 Z = true) (nq kb : Nat) (h0 : Heap) (hq : nq < 128) (hk : kb < 2) :
    Con l Z (⟨"com/example/camf/camf/FingerprintStoreHeldMaskPinLaw", "bit", "(II)J"⟩ : MethodName) method_3_code 2 (some .long) [] ({ frames := 0, cells := 0, slots := 0, locals := 0 } : Room) #[(.int (Int32.ofNat nq)), (.int (Int32.ofNat kb))] h0 (fun v h L => v = some (.long (own_bit nq kb)) ∧ h = h0 ∧ L = []) := by
  refine Con.of (plainFor_of_name pn_10) ?_
  intro p e s m below meth c s₁ hx hby hml hown hnm hret hlk hZ X0 e0
  refine Wp.enter (ef_rm10 m nq kb) ?_
  refine W.iloadN X0 hx 1 (hb hby d10_0) rfl rfl ?_
  refine W.bipush X0 hx 3 (6 : Int32) (hb hby d10_1) rfl rfl ?_
  refine W.iushr X0 hx 4 (hb hby d10_3) rfl ?_
  rw [own_blk2 nq hq]
  refine W.iloadN X0 hx 5 (hb hby d10_4) rfl rfl ?_
  refine W.icmpNe X0 hx 17 8 (hb hby d10_5) (by decide) (by decide) rfl (fun q => ?_) (fun q => ?_)
  · skip
    refine W.lconst X0 hx 18 (0 : Int64) (hb hby d10_17) rfl rfl ?_
    refine W.lret X0 hx hlk hret (hb hby d10_18) (by decide) (by decide) ?_
    exact ⟨by rw [own_bit, if_neg (fun z => q (by rw [z]))], e0, rfl⟩
  · skip
    refine W.lconst X0 hx 9 (1 : Int64) (hb hby d10_8) rfl rfl ?_
    refine W.iloadN X0 hx 10 (hb hby d10_9) rfl rfl ?_
    refine W.bipush X0 hx 12 (63 : Int32) (hb hby d10_10) rfl rfl ?_
    refine W.iand X0 hx 13 (hb hby d10_12) rfl ?_
    refine W.lshl X0 hx 14 (hb hby d10_13) rfl ?_
    refine W.goto X0 hx 18 (hb hby d10_14) (by decide) (by decide) ?_
    refine W.lret X0 hx hlk hret (hb hby d10_18) (by decide) (by decide) ?_
    exact ⟨by rw [own_bit, if_pos (by have := congrArg Int32.toInt q; rw [own_ofNat (by omega), own_ofNat (by omega)] at this; omega)]; rfl, e0, rfl⟩
theorem d1_0 : decode prog_13_method_1_code 0 = .ok (.aload_n 0, 1) := by decide +kernel
theorem d1_1 : decode prog_13_method_1_code 1 = .ok (.invokespecial 5, 3) := by decide +kernel
theorem d1_4 : decode prog_13_method_1_code 4 = .ok (.aload_n 0, 1) := by decide +kernel
theorem d1_5 : decode prog_13_method_1_code 5 = .ok (.lload_n 1, 1) := by decide +kernel
theorem d1_6 : decode prog_13_method_1_code 6 = .ok (.putfield 11, 3) := by decide +kernel
theorem d1_9 : decode prog_13_method_1_code 9 = .ok (.aload_n 0, 1) := by decide +kernel
theorem d1_10 : decode prog_13_method_1_code 10 = .ok (.lload_n 1, 1) := by decide +kernel
theorem d1_11 : decode prog_13_method_1_code 11 = .ok (.bipush 6, 2) := by decide +kernel
theorem d1_13 : decode prog_13_method_1_code 13 = .ok (.lushr, 1) := by decide +kernel
theorem d1_14 : decode prog_13_method_1_code 14 = .ok (.l2i, 1) := by decide +kernel
theorem d1_15 : decode prog_13_method_1_code 15 = .ok (.anewarray 15, 3) := by decide +kernel
theorem d1_18 : decode prog_13_method_1_code 18 = .ok (.putfield 17, 3) := by decide +kernel
theorem d1_21 : decode prog_13_method_1_code 21 = .ok (.aload_n 0, 1) := by decide +kernel
theorem d1_22 : decode prog_13_method_1_code 22 = .ok (.getfield 17, 3) := by decide +kernel
theorem d1_25 : decode prog_13_method_1_code 25 = .ok (.getstatic 21, 3) := by decide +kernel
theorem d1_28 : decode prog_13_method_1_code 28 = .ok (.invokestatic 24, 3) := by decide +kernel
theorem d1_31 : decode prog_13_method_1_code 31 = .ok (.return_, 1) := by decide +kernel
theorem pn_1 : plainName "com/example/camf/camf/FingerprintStore" = true := by first | (simp [plainName, overriddenIn]; done) | decide +kernel
theorem ef_rminit (m : MethodId) (o : Addr) : entryFrame m #[(.ref o), (.long (128 : Int64))] 3 = mkF m 0 #[.val (.ref o), .val (.long (128 : Int64)), .second] [] := by first | (simp [entryFrame, mkF, argsToLocals, Value.category]; done) | rfl
set_option maxRecDepth 65536 in
set_option maxHeartbeats 40000000 in
theorem rminit (l : Launch) (Z : State) (a0 : Array Value) (hw : ∀ d ∈ tables_1, d.before a0 Z = true) (o em : Addr) (h0 : Heap) (n0 : Nat) (Z0 : n0 ≤ h0.size) (E : Exa Z h0 o "com/example/camf/camf/FingerprintStore") (F1 : Fld Z h0 o "com/example/camf/camf/FingerprintStore" "size" "J" (.long 0)) (F2 : Fld Z h0 o "com/example/camf/camf/FingerprintStore" "blocks" "[[J" .null) (SE : Sta Z h0 "com/example/camf/camf/FingerprintStore" "EMPTY" "[J" (.ref em)) (LE : LArr Z h0 em []) (ne_em_o : em ≠ o) (ge_o : n0 ≤ o) :
    Con l Z (⟨"com/example/camf/camf/FingerprintStore", "<init>", "(J)V"⟩ : MethodName) prog_13_method_1_code 3 none [] ({ frames := 1, cells := 1, slots := 2, locals := 30 } : Room) #[(.ref o), (.long (128 : Int64))] h0 (fun v h L => v = none ∧ Fr n0 L ∧ ∃ bl : Addr, n0 ≤ bl ∧ FS Z h o bl (fun _ => em) (fun _ => []) ∧ h0.size ≤ h.size) := by
  refine Con.of (plainFor_of_name pn_1) ?_
  intro p e s m below meth c s₁ hx hby hml hown hnm hret hlk hZ X0 e0
  refine Wp.enter (ef_rminit m o) ?_
  obtain ⟨LE, EE⟩ := LE
  refine W.aloadN X0 hx 1 (hb hby d1_0) rfl rfl rfl ?_
  refine W.initO X0 hx hZ 4 0 hown (hw _ (List.mem_of_getElem? (i := 8) rfl)) (hw _ (List.mem_of_getElem? (i := 9) rfl)) (hw _ (List.mem_of_getElem? (i := 10) rfl)) e0 (by rw [hml]; rfl) (hb hby d1_1) (by decide) rfl (by decide) rfl ?_
  intro T1 X1 e1
  refine W.aloadN X1 hx 5 (hb hby d1_4) rfl rfl rfl ?_
  refine W.lloadN X1 hx 6 (hb hby d1_5) rfl rfl ?_
  refine W.putF X1 hx hZ 9 hown (hw _ (List.mem_of_getElem? (i := 11) rfl)) Via.refl e1 F1 E (Or.inr ⟨(hw _ (List.mem_of_getElem? (i := 12) rfl)), rfl, hnm⟩) (hw _ (List.mem_of_getElem? (i := 2) rfl)) (ty := .long) (by decide) rfl rfl (hb hby d1_6) rfl ?_
  intro T2 h2 X2 e2 W2 F1
  have E := E.wr W2
  have F2 := Fld.other W2 F2 (Or.inr (slot_ne (Or.inr (hw _ (List.mem_of_getElem? (i := 16) rfl))) (Or.inr (hw _ (List.mem_of_getElem? (i := 12) rfl))) (by decide) (t := (.array (.array .long))) (t' := .long) (by decide) (by decide)))
  have SE := SE.wr W2
  have LE := LE.other W2 ne_em_o
  have EE := EE.wr W2
  have z2 : n0 ≤ h2.size := by rw [W2.size]; exact Z0
  refine W.aloadN X2 hx 10 (hb hby d1_9) rfl rfl rfl ?_
  refine W.lloadN X2 hx 11 (hb hby d1_10) rfl rfl ?_
  refine W.bipush X2 hx 13 (6 : Int32) (hb hby d1_11) rfl rfl ?_
  refine W.lushr X2 hx 14 (hb hby d1_13) rfl ?_
  refine W.l2i X2 hx 15 (hb hby d1_14) rfl ?_
  refine W.newRA X2 hx hZ (ty := .long) 18 2 2 "[J" hown (by decide) (hw _ (List.mem_of_getElem? (i := 13) rfl)) (hw _ (List.mem_of_getElem? (i := 14) rfl)) e2 (hb hby d1_15) (by decide) (by decide) (by decide) (by decide) (by decide) rfl ?_
  intro T3 h3 bl q3 X3 e3 E3 A TA
  have ne_o_bl : o ≠ bl := fun q => by have := E.lt; rw [q, q3] at this; exact Nat.lt_irrefl _ this
  have ne_em_bl : em ≠ bl := fun q => by have := LE.lt; rw [q, q3] at this; exact Nat.lt_irrefl _ this
  have ge_bl : n0 ≤ bl := by have := z2; omega
  have E := E.ext E3
  have F1 := F1.ext E3
  have F2 := F2.ext E3
  have SE := SE.ext E3
  have LE := LE.ext E3
  have EE := EE.ext E3
  have z3 : n0 ≤ h3.size := Nat.le_trans z2 E3.1
  refine W.putF X3 hx hZ 21 hown (hw _ (List.mem_of_getElem? (i := 15) rfl)) Via.refl e3 F2 E (Or.inr ⟨(hw _ (List.mem_of_getElem? (i := 16) rfl)), rfl, hnm⟩) (hw _ (List.mem_of_getElem? (i := 2) rfl)) (ty := (.array (.array .long))) (by decide) rfl rfl (hb hby d1_18) rfl ?_
  intro T4 h4 X4 e4 W4 F2
  have E := E.wr W4
  have F1 := Fld.other W4 F1 (Or.inr (slot_ne (Or.inr (hw _ (List.mem_of_getElem? (i := 12) rfl))) (Or.inr (hw _ (List.mem_of_getElem? (i := 16) rfl))) (by decide) (t := .long) (t' := (.array (.array .long))) (by decide) (by decide)))
  have SE := SE.wr W4
  have LE := LE.other W4 ne_em_o
  have EE := EE.wr W4
  have A := A.other W4 ne_o_bl.symm
  have TA := TA.wr W4
  have z4 : n0 ≤ h4.size := by rw [W4.size]; exact z3
  refine W.aloadN X4 hx 22 (hb hby d1_21) rfl rfl rfl ?_
  refine W.getF X4 hx hZ 25 hown (hw _ (List.mem_of_getElem? (i := 15) rfl)) Via.refl e4 F2 (hb hby d1_22) rfl ?_
  intro T5 X5 e5
  refine W.getS X5 hx hZ 28 hown (hw _ (List.mem_of_getElem? (i := 17) rfl)) Via.refl e5 SE (hb hby d1_25) rfl ?_
  intro T6 X6 e6
  refine W.callS X6 hx hZ 31 0 [(.ref bl), (.ref em)] hown (hw _ (List.mem_of_getElem? (i := 19) rfl)) (hw _ (List.mem_of_getElem? (i := 20) rfl)) (hw _ (List.mem_of_getElem? (i := 21) rfl)) (hw _ (List.mem_of_getElem? (i := 22) rfl)) (by decide) pd_1 rfl e6 (rmfill l Z a0 hw bl em _ h4 n0 z4 A TA EE ge_bl) (hb hby d1_28) (by rw [hml]; rfl) rfl rfl (by decide) (by decide) (by decide) (by decide) rfl ?_
  rintro v7 T7 L7 X7 ⟨rfl, N7, K7, A, TA⟩
  have E := E.keep K7
  have F1 := F1.keep K7 (ninS ne_o_bl nin0)
  have F2 := F2.keep K7 (ninS ne_o_bl nin0)
  have LE := LE.keep K7 (ninS ne_em_bl nin0)
  have EE := EE.keep K7
  have z7 : n0 ≤ T7.heap.size := Nat.le_trans z4 K7.1
  have HS : h0.size ≤ T7.heap.size := by have := K7.1; have := W4.size; have := E3.1; have := W2.size; omega
  refine W.vret X7 hx hlk hret (hb hby d1_31) (by decide) (by decide) ?_
  exact ⟨rfl, (Fr.app (Fr.app (Fr.app (Fr.nil _) (fr1 ge_o)) (fr1 ge_o)) N7), bl, ge_bl, ⟨E, F2, A, TA, fun _ _ => ⟨⟨LE, EE⟩, ne_em_bl⟩, ne_o_bl⟩, HS⟩
theorem d5_0 : decode prog_13_method_10_code 0 = .ok (.lload_n 1, 1) := by decide +kernel
theorem d5_1 : decode prog_13_method_10_code 1 = .ok (.invokestatic 64, 3) := by decide +kernel
theorem d5_4 : decode prog_13_method_10_code 4 = .ok (.istore 5, 2) := by decide +kernel
theorem d5_6 : decode prog_13_method_10_code 6 = .ok (.aload_n 0, 1) := by decide +kernel
theorem d5_7 : decode prog_13_method_10_code 7 = .ok (.getfield 17, 3) := by decide +kernel
theorem d5_10 : decode prog_13_method_10_code 10 = .ok (.iload 5, 2) := by decide +kernel
theorem d5_12 : decode prog_13_method_10_code 12 = .ok (.aaload, 1) := by decide +kernel
theorem d5_13 : decode prog_13_method_10_code 13 = .ok (.aload_n 0, 1) := by decide +kernel
theorem d5_14 : decode prog_13_method_10_code 14 = .ok (.getfield 17, 3) := by decide +kernel
theorem d5_17 : decode prog_13_method_10_code 17 = .ok (.iload 5, 2) := by decide +kernel
theorem d5_19 : decode prog_13_method_10_code 19 = .ok (.aaload, 1) := by decide +kernel
theorem d5_20 : decode prog_13_method_10_code 20 = .ok (.arraylength, 1) := by decide +kernel
theorem d5_21 : decode prog_13_method_10_code 21 = .ok (.iconst 1, 1) := by decide +kernel
theorem d5_22 : decode prog_13_method_10_code 22 = .ok (.iadd, 1) := by decide +kernel
theorem d5_23 : decode prog_13_method_10_code 23 = .ok (.invokestatic 69, 3) := by decide +kernel
theorem d5_26 : decode prog_13_method_10_code 26 = .ok (.astore 6, 2) := by decide +kernel
theorem d5_28 : decode prog_13_method_10_code 28 = .ok (.aload 6, 2) := by decide +kernel
theorem d5_30 : decode prog_13_method_10_code 30 = .ok (.aload 6, 2) := by decide +kernel
theorem d5_32 : decode prog_13_method_10_code 32 = .ok (.arraylength, 1) := by decide +kernel
theorem d5_33 : decode prog_13_method_10_code 33 = .ok (.iconst 1, 1) := by decide +kernel
theorem d5_34 : decode prog_13_method_10_code 34 = .ok (.isub, 1) := by decide +kernel
theorem d5_35 : decode prog_13_method_10_code 35 = .ok (.lload_n 1, 1) := by decide +kernel
theorem d5_36 : decode prog_13_method_10_code 36 = .ok (.lload_n 3, 1) := by decide +kernel
theorem d5_37 : decode prog_13_method_10_code 37 = .ok (.invokestatic 73, 3) := by decide +kernel
theorem d5_40 : decode prog_13_method_10_code 40 = .ok (.lastore, 1) := by decide +kernel
theorem d5_41 : decode prog_13_method_10_code 41 = .ok (.aload_n 0, 1) := by decide +kernel
theorem d5_42 : decode prog_13_method_10_code 42 = .ok (.getfield 17, 3) := by decide +kernel
theorem d5_45 : decode prog_13_method_10_code 45 = .ok (.iload 5, 2) := by decide +kernel
theorem d5_47 : decode prog_13_method_10_code 47 = .ok (.aload 6, 2) := by decide +kernel
theorem d5_49 : decode prog_13_method_10_code 49 = .ok (.aastore, 1) := by decide +kernel
theorem d5_50 : decode prog_13_method_10_code 50 = .ok (.return_, 1) := by decide +kernel
theorem pn_5 : plainName "com/example/camf/camf/FingerprintStore" = true := by first | (simp [plainName, overriddenIn]; done) | decide +kernel
theorem own_ref (j kq : Nat) (r : Addr) (bs : Nat → Addr) : Value.ref (if j = kq then r else bs j) = upd (fun j => Value.ref (bs j)) kq (.ref r) j := by
  by_cases q : j = kq
  · subst q; rw [upd_same, if_pos rfl]
  · rw [upd_ne q, if_neg q]
theorem own_LL {Z : State} {h : Heap} {bl r : Addr} {bs : Nat → Addr} {xs : Nat → List Int64} {kq : Nat} {e : Int64} (LL : ∀ k, k < 2 → LArr Z h (bs k) (xs k) ∧ bs k ≠ bl) (BR : IArr Z h r .long ((xs kq).length + 1) (own_lf (xs kq ++ [e]))) (ER : Exa Z h r "[J") (ne : r ≠ bl) :
    ∀ k, k < 2 → LArr Z h (if k = kq then r else bs k) (if k = kq then xs k ++ [e] else xs k) ∧ (if k = kq then r else bs k) ≠ bl := fun k hk => by
  by_cases q : k = kq
  · subst q; simp only [if_true]; exact ⟨⟨by rw [List.length_append]; exact BR, ER⟩, ne⟩
  · simp only [if_neg q]; exact LL k hk
theorem ef_rmadd (m : MethodId) (o : Addr) (nq : Nat) (g : Int64) : entryFrame m #[(.ref o), (.long (Int32.ofNat nq).toInt64), (.long g)] 7 = mkF m 0 #[.val (.ref o), .val (.long (Int32.ofNat nq).toInt64), .second, .val (.long g), .second, .unset, .unset] [] := by first | (simp [entryFrame, mkF, argsToLocals, Value.category]; done) | rfl
set_option maxRecDepth 65536 in
set_option maxHeartbeats 40000000 in
theorem rmadd (l : Launch) (Z : State) (a0 : Array Value) (hw : ∀ d ∈ tables_1, d.before a0 Z = true) (o bl : Addr) (bs : Nat → Addr) (xs : Nat → List Int64) (nq kq : Nat) (g : Int64) (h0 : Heap) (n0 : Nat) (Z0 : n0 ≤ h0.size) (I : FS Z h0 o bl bs xs) (hq : nq < 128) (hk : nq / 64 = kq) (hl : (xs kq).length < 7) (ge_bl : n0 ≤ bl) :
    Con l Z (⟨"com/example/camf/camf/FingerprintStore", "add", "(JJ)V"⟩ : MethodName) prog_13_method_10_code 7 none [] ({ frames := 2, cells := 1, slots := 8, locals := 70 } : Room) #[(.ref o), (.long (Int32.ofNat nq).toInt64), (.long g)] h0 (fun v h L => v = none ∧ Fr n0 L ∧ Keep h0 h [bl] ∧ ∃ bs' : Nat → Addr, FS Z h o bl bs' (fun j => if j = kq then xs j ++ [own_ent (Int32.ofNat nq) g] else xs j)) := by
  refine Con.of (plainFor_of_name pn_5) ?_
  intro p e s m below meth c s₁ hx hby hml hown hnm hret hlk hZ X0 e0
  refine Wp.enter (ef_rmadd m o nq g) ?_
  have hk2 : kq < 2 := by omega
  obtain ⟨E, F, A, TA, LL, ne_o_bl⟩ := I
  obtain ⟨⟨L0, EL⟩, ne_bk_bl⟩ := LL kq hk2
  refine W.lloadN X0 hx 1 (hb hby d5_0) rfl rfl ?_
  refine W.callS X0 hx hZ 4 0 [(.long (Int32.ofNat nq).toInt64)] hown (hw _ (List.mem_of_getElem? (i := 34) rfl)) (hw _ (List.mem_of_getElem? (i := 35) rfl)) (hw _ (List.mem_of_getElem? (i := 3) rfl)) (hw _ (List.mem_of_getElem? (i := 36) rfl)) (by decide) pd_2 rfl e0 (rm6 l Z a0 hw nq h0 hq) (hb hby d5_1) (by rw [hml]; rfl) rfl rfl (by decide) (by decide) (by decide) (by decide) rfl ?_
  rintro v1 T1 L1 X1 ⟨rfl, e1, rfl⟩
  rw [hk]
  refine W.istore X1 hx 6 #[.val (.ref o), .val (.long (Int32.ofNat nq).toInt64), .second, .val (.long g), .second, .val (.int (Int32.ofNat kq)), .unset] (hb hby d5_4) rfl rfl ?_
  refine W.aloadN X1 hx 7 (hb hby d5_6) rfl rfl rfl ?_
  refine W.getF X1 hx hZ 10 hown (hw _ (List.mem_of_getElem? (i := 15) rfl)) Via.refl e1 F (hb hby d5_7) rfl ?_
  intro T2 X2 e2
  refine W.iload X2 hx 12 (hb hby d5_10) rfl rfl ?_
  refine W.aaload X2 hx hZ 13 kq (.ref (bs kq)) e2 A rfl (own_ofNat (by omega)) hk2 rfl (hb hby d5_12) rfl ?_
  refine W.aloadN X2 hx 14 (hb hby d5_13) rfl rfl rfl ?_
  refine W.getF X2 hx hZ 17 hown (hw _ (List.mem_of_getElem? (i := 15) rfl)) Via.refl e2 F (hb hby d5_14) rfl ?_
  intro T3 X3 e3
  refine W.iload X3 hx 19 (hb hby d5_17) rfl rfl ?_
  refine W.aaload X3 hx hZ 20 kq (.ref (bs kq)) e3 A rfl (own_ofNat (by omega)) hk2 rfl (hb hby d5_19) rfl ?_
  refine W.arrlen X3 hx hZ 21 e3 L0 (Int32.ofNat (xs kq).length) rfl (hb hby d5_20) rfl ?_
  refine W.iconst X3 hx 22 (1 : Int32) (hb hby d5_21) rfl rfl ?_
  refine W.iadd X3 hx 23 (hb hby d5_22) rfl ?_
  rw [show Int32.ofNat (xs kq).length + (1 : Int32) = Int32.ofNat ((xs kq).length + 1) from own_oadd (m := 1) (by omega) (by omega)]
  refine W.callS X3 hx hZ 26 0 [(.ref (bs kq)), (.int (Int32.ofNat ((xs kq).length + 1)))] hown (hw _ (List.mem_of_getElem? (i := 37) rfl)) (hw _ (List.mem_of_getElem? (i := 38) rfl)) (hw _ (List.mem_of_getElem? (i := 21) rfl)) (hw _ (List.mem_of_getElem? (i := 39) rfl)) (by decide) pd_3 rfl e3 (rmcp l Z a0 hw (bs kq) (xs kq).length ((xs kq).length + 1) _ h0 n0 Z0 L0 (fun _ _ => rfl) (by omega) (by omega)) (hb hby d5_23) (by rw [hml]; rfl) rfl rfl (by decide) (by decide) (by decide) (by decide) rfl ?_
  rintro v4 T4 L4 X4 ⟨r, rfl, hr, N4, K4, BR, ER⟩
  have ne_o_r : o ≠ r := fun z => by have := F.lt; rw [z, hr] at this; exact Nat.lt_irrefl _ this
  have ne_bl_r : bl ≠ r := fun z => by have := A.lt; rw [z, hr] at this; exact Nat.lt_irrefl _ this
  have LL : ∀ k, k < 2 → LArr Z T4.heap (bs k) (xs k) ∧ bs k ≠ bl ∧ bs k ≠ r := fun k hk => ⟨(LL k hk).1.keep K4 nin0, (LL k hk).2, fun z => by have := (LL k hk).1.1.lt; rw [z, hr] at this; exact Nat.lt_irrefl _ this⟩
  have E := E.keep K4
  have F := F.keep K4 nin0
  have A := A.keep K4 nin0
  have TA := TA.keep K4 nin0
  have z4 : n0 ≤ T4.heap.size := Nat.le_trans Z0 K4.1
  have ge_r : n0 ≤ r := by rw [hr]; exact Z0
  refine W.astore X4 hx 28 #[.val (.ref o), .val (.long (Int32.ofNat nq).toInt64), .second, .val (.long g), .second, .val (.int (Int32.ofNat kq)), .val (.ref r)] (hb hby d5_26) rfl rfl rfl ?_
  refine W.aload X4 hx 30 (hb hby d5_28) rfl rfl rfl ?_
  refine W.aload X4 hx 32 (hb hby d5_30) rfl rfl rfl ?_
  refine W.arrlen X4 hx hZ 33 rfl BR (Int32.ofNat ((xs kq).length + 1)) rfl (hb hby d5_32) rfl ?_
  refine W.iconst X4 hx 34 (1 : Int32) (hb hby d5_33) rfl rfl ?_
  refine W.isub X4 hx 35 (hb hby d5_34) rfl ?_
  refine W.lloadN X4 hx 36 (hb hby d5_35) rfl rfl ?_
  refine W.lloadN X4 hx 37 (hb hby d5_36) rfl rfl ?_
  rw [show Int32.ofNat ((xs kq).length + 1) - (1 : Int32) = Int32.ofNat (xs kq).length from own_osub (m := 1) (by omega) (by omega)]
  refine W.callS X4 hx hZ 40 2 [(.long (Int32.ofNat nq).toInt64), (.long g)] hown (hw _ (List.mem_of_getElem? (i := 49) rfl)) (hw _ (List.mem_of_getElem? (i := 50) rfl)) (hw _ (List.mem_of_getElem? (i := 3) rfl)) (hw _ (List.mem_of_getElem? (i := 51) rfl)) (by decide) pd_4 rfl rfl (rm9 l Z a0 hw nq g T4.heap) (hb hby d5_37) (by rw [hml]; rfl) rfl rfl (by decide) (by decide) (by decide) (by decide) rfl ?_
  rintro v5 T5 L5 X5 ⟨rfl, e5, rfl⟩
  refine W.lastore X5 hx hZ 41 (xs kq).length e5 BR (own_ofNat (by omega)) (Nat.lt_succ_self _) (hb hby d5_40) rfl ?_
  intro T6 h6 X6 e6 W6 BR
  have E := E.wr W6
  have F := Fld.other W6 F (Or.inl ne_o_r)
  have A := A.other W6 ne_bl_r
  have TA := TA.wr W6
  have ER := ER.wr W6
  have z6 : n0 ≤ h6.size := by rw [W6.size]; exact z4
  have LL : ∀ k, k < 2 → LArr Z h6 (bs k) (xs k) ∧ bs k ≠ bl := fun k hk => ⟨(LL k hk).1.wr W6 (LL k hk).2.2, (LL k hk).2.1⟩
  refine W.aloadN X6 hx 42 (hb hby d5_41) rfl rfl rfl ?_
  refine W.getF X6 hx hZ 45 hown (hw _ (List.mem_of_getElem? (i := 15) rfl)) Via.refl e6 F (hb hby d5_42) rfl ?_
  intro T7 X7 e7
  refine W.iload X7 hx 47 (hb hby d5_45) rfl rfl ?_
  refine W.aload X7 hx 49 (hb hby d5_47) rfl rfl rfl ?_
  refine W.aastore X7 hx hZ 50 kq e7 A rfl (TA.sto (Ins.self ER)) (own_ofNat (by omega)) hk2 (hb hby d5_49) rfl ?_
  intro T8 h8 X8 e8 W8 A
  have E := E.wr W8
  have F := Fld.other W8 F (Or.inl ne_o_bl)
  have TA := TA.wr W8
  have BR := BR.other W8 ne_bl_r.symm
  have ER := ER.wr W8
  have z8 : n0 ≤ h8.size := by rw [W8.size]; exact z6
  have LL : ∀ k, k < 2 → LArr Z h8 (bs k) (xs k) ∧ bs k ≠ bl := fun k hk => ⟨(LL k hk).1.wr W8 (LL k hk).2, (LL k hk).2⟩
  have BR' := IArr.cong (g := own_lf (xs kq ++ [own_ent (Int32.ofNat nq) g])) BR (fun j hj => own_more (xs kq) _ j (by rw [List.length_append]; exact hj))
  refine W.vret X8 hx hlk hret (hb hby d5_50) (by decide) (by decide) ?_
  rw [e8]
  exact ⟨rfl, (Fr.app (Fr.app (Fr.app (Fr.app (Fr.app (Fr.nil _) (Fr.nil _)) N4) (Fr.nil _)) (fr1 ge_r)) (fr1 ge_bl)), ((Keep.trans (Keep.refl _ _) K4 all0).wr W6 (Or.inr (Nat.le_of_eq hr.symm))).wr W8 (Or.inl (List.mem_singleton.mpr rfl)), (fun j => if j = kq then r else bs j), E, F, A.cong (fun j hj => own_ref j kq r bs), TA, own_LL LL BR' ER ne_bl_r.symm, ne_o_bl⟩
theorem d4_0 : decode prog_13_method_5_code 0 = .ok (.lconst 0, 1) := by decide +kernel
theorem d4_1 : decode prog_13_method_5_code 1 = .ok (.lstore_n 2, 1) := by decide +kernel
theorem d4_2 : decode prog_13_method_5_code 2 = .ok (.aload_n 0, 1) := by decide +kernel
theorem d4_3 : decode prog_13_method_5_code 3 = .ok (.getfield 17, 3) := by decide +kernel
theorem d4_6 : decode prog_13_method_5_code 6 = .ok (.iload_n 1, 1) := by decide +kernel
theorem d4_7 : decode prog_13_method_5_code 7 = .ok (.aaload, 1) := by decide +kernel
theorem d4_8 : decode prog_13_method_5_code 8 = .ok (.astore 4, 2) := by decide +kernel
theorem d4_10 : decode prog_13_method_5_code 10 = .ok (.aload 4, 2) := by decide +kernel
theorem d4_12 : decode prog_13_method_5_code 12 = .ok (.arraylength, 1) := by decide +kernel
theorem d4_13 : decode prog_13_method_5_code 13 = .ok (.istore 5, 2) := by decide +kernel
theorem d4_15 : decode prog_13_method_5_code 15 = .ok (.iconst 0, 1) := by decide +kernel
theorem d4_16 : decode prog_13_method_5_code 16 = .ok (.istore 6, 2) := by decide +kernel
theorem d4_18 : decode prog_13_method_5_code 18 = .ok (.iload 6, 2) := by decide +kernel
theorem d4_20 : decode prog_13_method_5_code 20 = .ok (.iload 5, 2) := by decide +kernel
theorem d4_22 : decode prog_13_method_5_code 22 = .ok (.if_icmp .ge 24, 3) := by decide +kernel
theorem d4_25 : decode prog_13_method_5_code 25 = .ok (.aload 4, 2) := by decide +kernel
theorem d4_27 : decode prog_13_method_5_code 27 = .ok (.iload 6, 2) := by decide +kernel
theorem d4_29 : decode prog_13_method_5_code 29 = .ok (.laload, 1) := by decide +kernel
theorem d4_30 : decode prog_13_method_5_code 30 = .ok (.lstore 7, 2) := by decide +kernel
theorem d4_32 : decode prog_13_method_5_code 32 = .ok (.lload_n 2, 1) := by decide +kernel
theorem d4_33 : decode prog_13_method_5_code 33 = .ok (.lconst 1, 1) := by decide +kernel
theorem d4_34 : decode prog_13_method_5_code 34 = .ok (.lload 7, 2) := by decide +kernel
theorem d4_36 : decode prog_13_method_5_code 36 = .ok (.l2i, 1) := by decide +kernel
theorem d4_37 : decode prog_13_method_5_code 37 = .ok (.lshl, 1) := by decide +kernel
theorem d4_38 : decode prog_13_method_5_code 38 = .ok (.lor, 1) := by decide +kernel
theorem d4_39 : decode prog_13_method_5_code 39 = .ok (.lstore_n 2, 1) := by decide +kernel
theorem d4_40 : decode prog_13_method_5_code 40 = .ok (.iinc 6 1, 3) := by decide +kernel
theorem d4_43 : decode prog_13_method_5_code 43 = .ok (.goto (-25), 3) := by decide +kernel
theorem d4_46 : decode prog_13_method_5_code 46 = .ok (.lload_n 2, 1) := by decide +kernel
theorem d4_47 : decode prog_13_method_5_code 47 = .ok (.lreturn, 1) := by decide +kernel
theorem pn_4 : plainName "com/example/camf/camf/FingerprintStore" = true := by first | (simp [plainName, overriddenIn]; done) | decide +kernel
theorem ef_rmh0 (m : MethodId) (o : Addr) (kb : Nat) : entryFrame m #[(.ref o), (.int (Int32.ofNat kb))] 9 = mkF m 0 #[.val (.ref o), .val (.int (Int32.ofNat kb)), .unset, .unset, .unset, .unset, .unset, .unset, .unset] [] := by first | (simp [entryFrame, mkF, argsToLocals, Value.category]; done) | rfl
set_option maxRecDepth 65536 in
set_option maxHeartbeats 40000000 in
theorem rmh0 (l : Launch) (Z : State) (a0 : Array Value) (hw : ∀ d ∈ tables_1, d.before a0 Z = true) (o bl : Addr) (bs : Nat → Addr) (xs : Nat → List Int64) (kb : Nat) (h0 : Heap) (I : FS Z h0 o bl bs xs) (hk : kb < 2) (hxs : xs kb = []) :
    Con l Z (⟨"com/example/camf/camf/FingerprintStore", "heldMask", "(I)J"⟩ : MethodName) prog_13_method_5_code 9 (some .long) [] ({ frames := 0, cells := 0, slots := 0, locals := 0 } : Room) #[(.ref o), (.int (Int32.ofNat kb))] h0 (fun v h L => v = some (.long (own_or 0 [])) ∧ h = h0 ∧ L = []) := by
  refine Con.of (plainFor_of_name pn_4) ?_
  intro p e s m below meth c s₁ hx hby hml hown hnm hret hlk hZ X0 e0
  refine Wp.enter (ef_rmh0 m o kb) ?_
  obtain ⟨E, F, A, TA, LL, ne_o_bl⟩ := I
  obtain ⟨⟨L0, EL⟩, ne_bk_bl⟩ := LL kb hk
  rw [hxs] at L0
  refine W.lconst X0 hx 1 (0 : Int64) (hb hby d4_0) rfl rfl ?_
  refine W.lstoreN X0 hx 2 #[.val (.ref o), .val (.int (Int32.ofNat kb)), .val (.long (0 : Int64)), .second, .unset, .unset, .unset, .unset, .unset] (hb hby d4_1) rfl rfl ?_
  refine W.aloadN X0 hx 3 (hb hby d4_2) rfl rfl rfl ?_
  refine W.getF X0 hx hZ 6 hown (hw _ (List.mem_of_getElem? (i := 15) rfl)) Via.refl e0 F (hb hby d4_3) rfl ?_
  intro T1 X1 e1
  refine W.iloadN X1 hx 7 (hb hby d4_6) rfl rfl ?_
  refine W.aaload X1 hx hZ 8 kb (.ref (bs kb)) e1 A rfl (own_ofNat (by omega)) hk rfl (hb hby d4_7) rfl ?_
  refine W.astore X1 hx 10 #[.val (.ref o), .val (.int (Int32.ofNat kb)), .val (.long (0 : Int64)), .second, .val (.ref (bs kb)), .unset, .unset, .unset, .unset] (hb hby d4_8) rfl rfl rfl ?_
  refine W.aload X1 hx 12 (hb hby d4_10) rfl rfl rfl ?_
  refine W.arrlen X1 hx hZ 13 e1 L0 (0 : Int32) rfl (hb hby d4_12) rfl ?_
  refine W.istore X1 hx 15 #[.val (.ref o), .val (.int (Int32.ofNat kb)), .val (.long (0 : Int64)), .second, .val (.ref (bs kb)), .val (.int (0 : Int32)), .unset, .unset, .unset] (hb hby d4_13) rfl rfl ?_
  refine W.iconst X1 hx 16 (0 : Int32) (hb hby d4_15) rfl rfl ?_
  refine W.istore X1 hx 18 #[.val (.ref o), .val (.int (Int32.ofNat kb)), .val (.long (0 : Int64)), .second, .val (.ref (bs kb)), .val (.int (0 : Int32)), .val (.int (0 : Int32)), .unset, .unset] (hb hby d4_16) rfl rfl ?_
  refine W.iload X1 hx 20 (hb hby d4_18) rfl rfl ?_
  refine W.iload X1 hx 22 (hb hby d4_20) rfl rfl ?_
  refine W.icmpGe X1 hx 46 25 (hb hby d4_22) (by decide) (by decide) rfl (fun q => ?_) (fun q => ?_)
  · skip
    refine W.lloadN X1 hx 47 (hb hby d4_46) rfl rfl ?_
    refine W.lret X1 hx hlk hret (hb hby d4_47) (by decide) (by decide) ?_
    exact ⟨rfl, e1, rfl⟩
  · exact absurd q (by decide)
theorem ef_rmh1 (m : MethodId) (o : Addr) (kb : Nat) : entryFrame m #[(.ref o), (.int (Int32.ofNat kb))] 9 = mkF m 0 #[.val (.ref o), .val (.int (Int32.ofNat kb)), .unset, .unset, .unset, .unset, .unset, .unset, .unset] [] := by first | (simp [entryFrame, mkF, argsToLocals, Value.category]; done) | rfl
set_option maxRecDepth 65536 in
set_option maxHeartbeats 40000000 in
theorem rmh1 (l : Launch) (Z : State) (a0 : Array Value) (hw : ∀ d ∈ tables_1, d.before a0 Z = true) (o bl : Addr) (bs : Nat → Addr) (xs : Nat → List Int64) (kb : Nat) (y0 : Int64) (h0 : Heap) (I : FS Z h0 o bl bs xs) (hk : kb < 2) (hxs : xs kb = [y0]) :
    Con l Z (⟨"com/example/camf/camf/FingerprintStore", "heldMask", "(I)J"⟩ : MethodName) prog_13_method_5_code 9 (some .long) [] ({ frames := 0, cells := 0, slots := 0, locals := 0 } : Room) #[(.ref o), (.int (Int32.ofNat kb))] h0 (fun v h L => v = some (.long (own_or 0 [y0])) ∧ h = h0 ∧ L = []) := by
  refine Con.of (plainFor_of_name pn_4) ?_
  intro p e s m below meth c s₁ hx hby hml hown hnm hret hlk hZ X0 e0
  refine Wp.enter (ef_rmh1 m o kb) ?_
  obtain ⟨E, F, A, TA, LL, ne_o_bl⟩ := I
  obtain ⟨⟨L0, EL⟩, ne_bk_bl⟩ := LL kb hk
  rw [hxs] at L0
  refine W.lconst X0 hx 1 (0 : Int64) (hb hby d4_0) rfl rfl ?_
  refine W.lstoreN X0 hx 2 #[.val (.ref o), .val (.int (Int32.ofNat kb)), .val (.long (0 : Int64)), .second, .unset, .unset, .unset, .unset, .unset] (hb hby d4_1) rfl rfl ?_
  refine W.aloadN X0 hx 3 (hb hby d4_2) rfl rfl rfl ?_
  refine W.getF X0 hx hZ 6 hown (hw _ (List.mem_of_getElem? (i := 15) rfl)) Via.refl e0 F (hb hby d4_3) rfl ?_
  intro T1 X1 e1
  refine W.iloadN X1 hx 7 (hb hby d4_6) rfl rfl ?_
  refine W.aaload X1 hx hZ 8 kb (.ref (bs kb)) e1 A rfl (own_ofNat (by omega)) hk rfl (hb hby d4_7) rfl ?_
  refine W.astore X1 hx 10 #[.val (.ref o), .val (.int (Int32.ofNat kb)), .val (.long (0 : Int64)), .second, .val (.ref (bs kb)), .unset, .unset, .unset, .unset] (hb hby d4_8) rfl rfl rfl ?_
  refine W.aload X1 hx 12 (hb hby d4_10) rfl rfl rfl ?_
  refine W.arrlen X1 hx hZ 13 e1 L0 (1 : Int32) rfl (hb hby d4_12) rfl ?_
  refine W.istore X1 hx 15 #[.val (.ref o), .val (.int (Int32.ofNat kb)), .val (.long (0 : Int64)), .second, .val (.ref (bs kb)), .val (.int (1 : Int32)), .unset, .unset, .unset] (hb hby d4_13) rfl rfl ?_
  refine W.iconst X1 hx 16 (0 : Int32) (hb hby d4_15) rfl rfl ?_
  refine W.istore X1 hx 18 #[.val (.ref o), .val (.int (Int32.ofNat kb)), .val (.long (0 : Int64)), .second, .val (.ref (bs kb)), .val (.int (1 : Int32)), .val (.int (0 : Int32)), .unset, .unset] (hb hby d4_16) rfl rfl ?_
  refine W.iload X1 hx 20 (hb hby d4_18) rfl rfl ?_
  refine W.iload X1 hx 22 (hb hby d4_20) rfl rfl ?_
  refine W.icmpGe X1 hx 46 25 (hb hby d4_22) (by decide) (by decide) rfl (fun q => ?_) (fun q => ?_)
  · exact absurd (by decide) q
  · skip
    refine W.aload X1 hx 27 (hb hby d4_25) rfl rfl rfl ?_
    refine W.iload X1 hx 29 (hb hby d4_27) rfl rfl ?_
    refine W.laload X1 hx hZ 30 0 (.long y0) e1 L0 (by decide) (by simp) rfl (hb hby d4_29) rfl ?_
    refine W.lstore X1 hx 32 #[.val (.ref o), .val (.int (Int32.ofNat kb)), .val (.long (0 : Int64)), .second, .val (.ref (bs kb)), .val (.int (1 : Int32)), .val (.int (0 : Int32)), .val (.long y0), .second] (hb hby d4_30) rfl rfl ?_
    refine W.lloadN X1 hx 33 (hb hby d4_32) rfl rfl ?_
    refine W.lconst X1 hx 34 (1 : Int64) (hb hby d4_33) rfl rfl ?_
    refine W.lload X1 hx 36 (hb hby d4_34) rfl rfl ?_
    refine W.l2i X1 hx 37 (hb hby d4_36) rfl ?_
    refine W.lshl X1 hx 38 (hb hby d4_37) rfl ?_
    refine W.lor X1 hx 39 (hb hby d4_38) rfl ?_
    refine W.lstoreN X1 hx 40 #[.val (.ref o), .val (.int (Int32.ofNat kb)), .val (.long ((0 : Int64) ||| ((1 : Int64) <<< ((y0).toInt32 &&& 0x3f).toInt64))), .second, .val (.ref (bs kb)), .val (.int (1 : Int32)), .val (.int (0 : Int32)), .val (.long y0), .second] (hb hby d4_39) rfl rfl ?_
    refine W.iinc X1 hx 43 (1 : Int32) #[.val (.ref o), .val (.int (Int32.ofNat kb)), .val (.long ((0 : Int64) ||| ((1 : Int64) <<< ((y0).toInt32 &&& 0x3f).toInt64))), .second, .val (.ref (bs kb)), .val (.int (1 : Int32)), .val (.int ((0 : Int32) + (1 : Int32))), .val (.long y0), .second] (hb hby d4_40) rfl rfl rfl rfl ?_
    refine W.goto X1 hx 18 (hb hby d4_43) (by decide) (by decide) ?_
    refine W.iload X1 hx 20 (hb hby d4_18) rfl rfl ?_
    refine W.iload X1 hx 22 (hb hby d4_20) rfl rfl ?_
    refine W.icmpGe X1 hx 46 25 (hb hby d4_22) (by decide) (by decide) rfl (fun q => ?_) (fun q => ?_)
    · skip
      refine W.lloadN X1 hx 47 (hb hby d4_46) rfl rfl ?_
      refine W.lret X1 hx hlk hret (hb hby d4_47) (by decide) (by decide) ?_
      exact ⟨rfl, e1, rfl⟩
    · exact absurd q (by decide)
theorem ef_rmh2 (m : MethodId) (o : Addr) (kb : Nat) : entryFrame m #[(.ref o), (.int (Int32.ofNat kb))] 9 = mkF m 0 #[.val (.ref o), .val (.int (Int32.ofNat kb)), .unset, .unset, .unset, .unset, .unset, .unset, .unset] [] := by first | (simp [entryFrame, mkF, argsToLocals, Value.category]; done) | rfl
set_option maxRecDepth 65536 in
set_option maxHeartbeats 40000000 in
theorem rmh2 (l : Launch) (Z : State) (a0 : Array Value) (hw : ∀ d ∈ tables_1, d.before a0 Z = true) (o bl : Addr) (bs : Nat → Addr) (xs : Nat → List Int64) (kb : Nat) (y0 y1 : Int64) (h0 : Heap) (I : FS Z h0 o bl bs xs) (hk : kb < 2) (hxs : xs kb = [y0, y1]) :
    Con l Z (⟨"com/example/camf/camf/FingerprintStore", "heldMask", "(I)J"⟩ : MethodName) prog_13_method_5_code 9 (some .long) [] ({ frames := 0, cells := 0, slots := 0, locals := 0 } : Room) #[(.ref o), (.int (Int32.ofNat kb))] h0 (fun v h L => v = some (.long (own_or 0 [y0, y1])) ∧ h = h0 ∧ L = []) := by
  refine Con.of (plainFor_of_name pn_4) ?_
  intro p e s m below meth c s₁ hx hby hml hown hnm hret hlk hZ X0 e0
  refine Wp.enter (ef_rmh2 m o kb) ?_
  obtain ⟨E, F, A, TA, LL, ne_o_bl⟩ := I
  obtain ⟨⟨L0, EL⟩, ne_bk_bl⟩ := LL kb hk
  rw [hxs] at L0
  refine W.lconst X0 hx 1 (0 : Int64) (hb hby d4_0) rfl rfl ?_
  refine W.lstoreN X0 hx 2 #[.val (.ref o), .val (.int (Int32.ofNat kb)), .val (.long (0 : Int64)), .second, .unset, .unset, .unset, .unset, .unset] (hb hby d4_1) rfl rfl ?_
  refine W.aloadN X0 hx 3 (hb hby d4_2) rfl rfl rfl ?_
  refine W.getF X0 hx hZ 6 hown (hw _ (List.mem_of_getElem? (i := 15) rfl)) Via.refl e0 F (hb hby d4_3) rfl ?_
  intro T1 X1 e1
  refine W.iloadN X1 hx 7 (hb hby d4_6) rfl rfl ?_
  refine W.aaload X1 hx hZ 8 kb (.ref (bs kb)) e1 A rfl (own_ofNat (by omega)) hk rfl (hb hby d4_7) rfl ?_
  refine W.astore X1 hx 10 #[.val (.ref o), .val (.int (Int32.ofNat kb)), .val (.long (0 : Int64)), .second, .val (.ref (bs kb)), .unset, .unset, .unset, .unset] (hb hby d4_8) rfl rfl rfl ?_
  refine W.aload X1 hx 12 (hb hby d4_10) rfl rfl rfl ?_
  refine W.arrlen X1 hx hZ 13 e1 L0 (2 : Int32) rfl (hb hby d4_12) rfl ?_
  refine W.istore X1 hx 15 #[.val (.ref o), .val (.int (Int32.ofNat kb)), .val (.long (0 : Int64)), .second, .val (.ref (bs kb)), .val (.int (2 : Int32)), .unset, .unset, .unset] (hb hby d4_13) rfl rfl ?_
  refine W.iconst X1 hx 16 (0 : Int32) (hb hby d4_15) rfl rfl ?_
  refine W.istore X1 hx 18 #[.val (.ref o), .val (.int (Int32.ofNat kb)), .val (.long (0 : Int64)), .second, .val (.ref (bs kb)), .val (.int (2 : Int32)), .val (.int (0 : Int32)), .unset, .unset] (hb hby d4_16) rfl rfl ?_
  refine W.iload X1 hx 20 (hb hby d4_18) rfl rfl ?_
  refine W.iload X1 hx 22 (hb hby d4_20) rfl rfl ?_
  refine W.icmpGe X1 hx 46 25 (hb hby d4_22) (by decide) (by decide) rfl (fun q => ?_) (fun q => ?_)
  · exact absurd (by decide) q
  · skip
    refine W.aload X1 hx 27 (hb hby d4_25) rfl rfl rfl ?_
    refine W.iload X1 hx 29 (hb hby d4_27) rfl rfl ?_
    refine W.laload X1 hx hZ 30 0 (.long y0) e1 L0 (by decide) (by simp) rfl (hb hby d4_29) rfl ?_
    refine W.lstore X1 hx 32 #[.val (.ref o), .val (.int (Int32.ofNat kb)), .val (.long (0 : Int64)), .second, .val (.ref (bs kb)), .val (.int (2 : Int32)), .val (.int (0 : Int32)), .val (.long y0), .second] (hb hby d4_30) rfl rfl ?_
    refine W.lloadN X1 hx 33 (hb hby d4_32) rfl rfl ?_
    refine W.lconst X1 hx 34 (1 : Int64) (hb hby d4_33) rfl rfl ?_
    refine W.lload X1 hx 36 (hb hby d4_34) rfl rfl ?_
    refine W.l2i X1 hx 37 (hb hby d4_36) rfl ?_
    refine W.lshl X1 hx 38 (hb hby d4_37) rfl ?_
    refine W.lor X1 hx 39 (hb hby d4_38) rfl ?_
    refine W.lstoreN X1 hx 40 #[.val (.ref o), .val (.int (Int32.ofNat kb)), .val (.long ((0 : Int64) ||| ((1 : Int64) <<< ((y0).toInt32 &&& 0x3f).toInt64))), .second, .val (.ref (bs kb)), .val (.int (2 : Int32)), .val (.int (0 : Int32)), .val (.long y0), .second] (hb hby d4_39) rfl rfl ?_
    refine W.iinc X1 hx 43 (1 : Int32) #[.val (.ref o), .val (.int (Int32.ofNat kb)), .val (.long ((0 : Int64) ||| ((1 : Int64) <<< ((y0).toInt32 &&& 0x3f).toInt64))), .second, .val (.ref (bs kb)), .val (.int (2 : Int32)), .val (.int ((0 : Int32) + (1 : Int32))), .val (.long y0), .second] (hb hby d4_40) rfl rfl rfl rfl ?_
    refine W.goto X1 hx 18 (hb hby d4_43) (by decide) (by decide) ?_
    refine W.iload X1 hx 20 (hb hby d4_18) rfl rfl ?_
    refine W.iload X1 hx 22 (hb hby d4_20) rfl rfl ?_
    refine W.icmpGe X1 hx 46 25 (hb hby d4_22) (by decide) (by decide) rfl (fun q => ?_) (fun q => ?_)
    · exact absurd (by decide) q
    · skip
      refine W.aload X1 hx 27 (hb hby d4_25) rfl rfl rfl ?_
      refine W.iload X1 hx 29 (hb hby d4_27) rfl rfl ?_
      refine W.laload X1 hx hZ 30 1 (.long y1) e1 L0 (by decide) (by simp) rfl (hb hby d4_29) rfl ?_
      refine W.lstore X1 hx 32 #[.val (.ref o), .val (.int (Int32.ofNat kb)), .val (.long ((0 : Int64) ||| ((1 : Int64) <<< ((y0).toInt32 &&& 0x3f).toInt64))), .second, .val (.ref (bs kb)), .val (.int (2 : Int32)), .val (.int ((0 : Int32) + (1 : Int32))), .val (.long y1), .second] (hb hby d4_30) rfl rfl ?_
      refine W.lloadN X1 hx 33 (hb hby d4_32) rfl rfl ?_
      refine W.lconst X1 hx 34 (1 : Int64) (hb hby d4_33) rfl rfl ?_
      refine W.lload X1 hx 36 (hb hby d4_34) rfl rfl ?_
      refine W.l2i X1 hx 37 (hb hby d4_36) rfl ?_
      refine W.lshl X1 hx 38 (hb hby d4_37) rfl ?_
      refine W.lor X1 hx 39 (hb hby d4_38) rfl ?_
      refine W.lstoreN X1 hx 40 #[.val (.ref o), .val (.int (Int32.ofNat kb)), .val (.long (((0 : Int64) ||| ((1 : Int64) <<< ((y0).toInt32 &&& 0x3f).toInt64)) ||| ((1 : Int64) <<< ((y1).toInt32 &&& 0x3f).toInt64))), .second, .val (.ref (bs kb)), .val (.int (2 : Int32)), .val (.int ((0 : Int32) + (1 : Int32))), .val (.long y1), .second] (hb hby d4_39) rfl rfl ?_
      refine W.iinc X1 hx 43 (1 : Int32) #[.val (.ref o), .val (.int (Int32.ofNat kb)), .val (.long (((0 : Int64) ||| ((1 : Int64) <<< ((y0).toInt32 &&& 0x3f).toInt64)) ||| ((1 : Int64) <<< ((y1).toInt32 &&& 0x3f).toInt64))), .second, .val (.ref (bs kb)), .val (.int (2 : Int32)), .val (.int (((0 : Int32) + (1 : Int32)) + (1 : Int32))), .val (.long y1), .second] (hb hby d4_40) rfl rfl rfl rfl ?_
      refine W.goto X1 hx 18 (hb hby d4_43) (by decide) (by decide) ?_
      refine W.iload X1 hx 20 (hb hby d4_18) rfl rfl ?_
      refine W.iload X1 hx 22 (hb hby d4_20) rfl rfl ?_
      refine W.icmpGe X1 hx 46 25 (hb hby d4_22) (by decide) (by decide) rfl (fun q => ?_) (fun q => ?_)
      · skip
        refine W.lloadN X1 hx 47 (hb hby d4_46) rfl rfl ?_
        refine W.lret X1 hx hlk hret (hb hby d4_47) (by decide) (by decide) ?_
        exact ⟨rfl, e1, rfl⟩
      · exact absurd q (by decide)
theorem ef_rmh3 (m : MethodId) (o : Addr) (kb : Nat) : entryFrame m #[(.ref o), (.int (Int32.ofNat kb))] 9 = mkF m 0 #[.val (.ref o), .val (.int (Int32.ofNat kb)), .unset, .unset, .unset, .unset, .unset, .unset, .unset] [] := by first | (simp [entryFrame, mkF, argsToLocals, Value.category]; done) | rfl
set_option maxRecDepth 65536 in
set_option maxHeartbeats 40000000 in
theorem rmh3 (l : Launch) (Z : State) (a0 : Array Value) (hw : ∀ d ∈ tables_1, d.before a0 Z = true) (o bl : Addr) (bs : Nat → Addr) (xs : Nat → List Int64) (kb : Nat) (y0 y1 y2 : Int64) (h0 : Heap) (I : FS Z h0 o bl bs xs) (hk : kb < 2) (hxs : xs kb = [y0, y1, y2]) :
    Con l Z (⟨"com/example/camf/camf/FingerprintStore", "heldMask", "(I)J"⟩ : MethodName) prog_13_method_5_code 9 (some .long) [] ({ frames := 0, cells := 0, slots := 0, locals := 0 } : Room) #[(.ref o), (.int (Int32.ofNat kb))] h0 (fun v h L => v = some (.long (own_or 0 [y0, y1, y2])) ∧ h = h0 ∧ L = []) := by
  refine Con.of (plainFor_of_name pn_4) ?_
  intro p e s m below meth c s₁ hx hby hml hown hnm hret hlk hZ X0 e0
  refine Wp.enter (ef_rmh3 m o kb) ?_
  obtain ⟨E, F, A, TA, LL, ne_o_bl⟩ := I
  obtain ⟨⟨L0, EL⟩, ne_bk_bl⟩ := LL kb hk
  rw [hxs] at L0
  refine W.lconst X0 hx 1 (0 : Int64) (hb hby d4_0) rfl rfl ?_
  refine W.lstoreN X0 hx 2 #[.val (.ref o), .val (.int (Int32.ofNat kb)), .val (.long (0 : Int64)), .second, .unset, .unset, .unset, .unset, .unset] (hb hby d4_1) rfl rfl ?_
  refine W.aloadN X0 hx 3 (hb hby d4_2) rfl rfl rfl ?_
  refine W.getF X0 hx hZ 6 hown (hw _ (List.mem_of_getElem? (i := 15) rfl)) Via.refl e0 F (hb hby d4_3) rfl ?_
  intro T1 X1 e1
  refine W.iloadN X1 hx 7 (hb hby d4_6) rfl rfl ?_
  refine W.aaload X1 hx hZ 8 kb (.ref (bs kb)) e1 A rfl (own_ofNat (by omega)) hk rfl (hb hby d4_7) rfl ?_
  refine W.astore X1 hx 10 #[.val (.ref o), .val (.int (Int32.ofNat kb)), .val (.long (0 : Int64)), .second, .val (.ref (bs kb)), .unset, .unset, .unset, .unset] (hb hby d4_8) rfl rfl rfl ?_
  refine W.aload X1 hx 12 (hb hby d4_10) rfl rfl rfl ?_
  refine W.arrlen X1 hx hZ 13 e1 L0 (3 : Int32) rfl (hb hby d4_12) rfl ?_
  refine W.istore X1 hx 15 #[.val (.ref o), .val (.int (Int32.ofNat kb)), .val (.long (0 : Int64)), .second, .val (.ref (bs kb)), .val (.int (3 : Int32)), .unset, .unset, .unset] (hb hby d4_13) rfl rfl ?_
  refine W.iconst X1 hx 16 (0 : Int32) (hb hby d4_15) rfl rfl ?_
  refine W.istore X1 hx 18 #[.val (.ref o), .val (.int (Int32.ofNat kb)), .val (.long (0 : Int64)), .second, .val (.ref (bs kb)), .val (.int (3 : Int32)), .val (.int (0 : Int32)), .unset, .unset] (hb hby d4_16) rfl rfl ?_
  refine W.iload X1 hx 20 (hb hby d4_18) rfl rfl ?_
  refine W.iload X1 hx 22 (hb hby d4_20) rfl rfl ?_
  refine W.icmpGe X1 hx 46 25 (hb hby d4_22) (by decide) (by decide) rfl (fun q => ?_) (fun q => ?_)
  · exact absurd (by decide) q
  · skip
    refine W.aload X1 hx 27 (hb hby d4_25) rfl rfl rfl ?_
    refine W.iload X1 hx 29 (hb hby d4_27) rfl rfl ?_
    refine W.laload X1 hx hZ 30 0 (.long y0) e1 L0 (by decide) (by simp) rfl (hb hby d4_29) rfl ?_
    refine W.lstore X1 hx 32 #[.val (.ref o), .val (.int (Int32.ofNat kb)), .val (.long (0 : Int64)), .second, .val (.ref (bs kb)), .val (.int (3 : Int32)), .val (.int (0 : Int32)), .val (.long y0), .second] (hb hby d4_30) rfl rfl ?_
    refine W.lloadN X1 hx 33 (hb hby d4_32) rfl rfl ?_
    refine W.lconst X1 hx 34 (1 : Int64) (hb hby d4_33) rfl rfl ?_
    refine W.lload X1 hx 36 (hb hby d4_34) rfl rfl ?_
    refine W.l2i X1 hx 37 (hb hby d4_36) rfl ?_
    refine W.lshl X1 hx 38 (hb hby d4_37) rfl ?_
    refine W.lor X1 hx 39 (hb hby d4_38) rfl ?_
    refine W.lstoreN X1 hx 40 #[.val (.ref o), .val (.int (Int32.ofNat kb)), .val (.long ((0 : Int64) ||| ((1 : Int64) <<< ((y0).toInt32 &&& 0x3f).toInt64))), .second, .val (.ref (bs kb)), .val (.int (3 : Int32)), .val (.int (0 : Int32)), .val (.long y0), .second] (hb hby d4_39) rfl rfl ?_
    refine W.iinc X1 hx 43 (1 : Int32) #[.val (.ref o), .val (.int (Int32.ofNat kb)), .val (.long ((0 : Int64) ||| ((1 : Int64) <<< ((y0).toInt32 &&& 0x3f).toInt64))), .second, .val (.ref (bs kb)), .val (.int (3 : Int32)), .val (.int ((0 : Int32) + (1 : Int32))), .val (.long y0), .second] (hb hby d4_40) rfl rfl rfl rfl ?_
    refine W.goto X1 hx 18 (hb hby d4_43) (by decide) (by decide) ?_
    refine W.iload X1 hx 20 (hb hby d4_18) rfl rfl ?_
    refine W.iload X1 hx 22 (hb hby d4_20) rfl rfl ?_
    refine W.icmpGe X1 hx 46 25 (hb hby d4_22) (by decide) (by decide) rfl (fun q => ?_) (fun q => ?_)
    · exact absurd (by decide) q
    · skip
      refine W.aload X1 hx 27 (hb hby d4_25) rfl rfl rfl ?_
      refine W.iload X1 hx 29 (hb hby d4_27) rfl rfl ?_
      refine W.laload X1 hx hZ 30 1 (.long y1) e1 L0 (by decide) (by simp) rfl (hb hby d4_29) rfl ?_
      refine W.lstore X1 hx 32 #[.val (.ref o), .val (.int (Int32.ofNat kb)), .val (.long ((0 : Int64) ||| ((1 : Int64) <<< ((y0).toInt32 &&& 0x3f).toInt64))), .second, .val (.ref (bs kb)), .val (.int (3 : Int32)), .val (.int ((0 : Int32) + (1 : Int32))), .val (.long y1), .second] (hb hby d4_30) rfl rfl ?_
      refine W.lloadN X1 hx 33 (hb hby d4_32) rfl rfl ?_
      refine W.lconst X1 hx 34 (1 : Int64) (hb hby d4_33) rfl rfl ?_
      refine W.lload X1 hx 36 (hb hby d4_34) rfl rfl ?_
      refine W.l2i X1 hx 37 (hb hby d4_36) rfl ?_
      refine W.lshl X1 hx 38 (hb hby d4_37) rfl ?_
      refine W.lor X1 hx 39 (hb hby d4_38) rfl ?_
      refine W.lstoreN X1 hx 40 #[.val (.ref o), .val (.int (Int32.ofNat kb)), .val (.long (((0 : Int64) ||| ((1 : Int64) <<< ((y0).toInt32 &&& 0x3f).toInt64)) ||| ((1 : Int64) <<< ((y1).toInt32 &&& 0x3f).toInt64))), .second, .val (.ref (bs kb)), .val (.int (3 : Int32)), .val (.int ((0 : Int32) + (1 : Int32))), .val (.long y1), .second] (hb hby d4_39) rfl rfl ?_
      refine W.iinc X1 hx 43 (1 : Int32) #[.val (.ref o), .val (.int (Int32.ofNat kb)), .val (.long (((0 : Int64) ||| ((1 : Int64) <<< ((y0).toInt32 &&& 0x3f).toInt64)) ||| ((1 : Int64) <<< ((y1).toInt32 &&& 0x3f).toInt64))), .second, .val (.ref (bs kb)), .val (.int (3 : Int32)), .val (.int (((0 : Int32) + (1 : Int32)) + (1 : Int32))), .val (.long y1), .second] (hb hby d4_40) rfl rfl rfl rfl ?_
      refine W.goto X1 hx 18 (hb hby d4_43) (by decide) (by decide) ?_
      refine W.iload X1 hx 20 (hb hby d4_18) rfl rfl ?_
      refine W.iload X1 hx 22 (hb hby d4_20) rfl rfl ?_
      refine W.icmpGe X1 hx 46 25 (hb hby d4_22) (by decide) (by decide) rfl (fun q => ?_) (fun q => ?_)
      · exact absurd (by decide) q
      · skip
        refine W.aload X1 hx 27 (hb hby d4_25) rfl rfl rfl ?_
        refine W.iload X1 hx 29 (hb hby d4_27) rfl rfl ?_
        refine W.laload X1 hx hZ 30 2 (.long y2) e1 L0 (by decide) (by simp) rfl (hb hby d4_29) rfl ?_
        refine W.lstore X1 hx 32 #[.val (.ref o), .val (.int (Int32.ofNat kb)), .val (.long (((0 : Int64) ||| ((1 : Int64) <<< ((y0).toInt32 &&& 0x3f).toInt64)) ||| ((1 : Int64) <<< ((y1).toInt32 &&& 0x3f).toInt64))), .second, .val (.ref (bs kb)), .val (.int (3 : Int32)), .val (.int (((0 : Int32) + (1 : Int32)) + (1 : Int32))), .val (.long y2), .second] (hb hby d4_30) rfl rfl ?_
        refine W.lloadN X1 hx 33 (hb hby d4_32) rfl rfl ?_
        refine W.lconst X1 hx 34 (1 : Int64) (hb hby d4_33) rfl rfl ?_
        refine W.lload X1 hx 36 (hb hby d4_34) rfl rfl ?_
        refine W.l2i X1 hx 37 (hb hby d4_36) rfl ?_
        refine W.lshl X1 hx 38 (hb hby d4_37) rfl ?_
        refine W.lor X1 hx 39 (hb hby d4_38) rfl ?_
        refine W.lstoreN X1 hx 40 #[.val (.ref o), .val (.int (Int32.ofNat kb)), .val (.long ((((0 : Int64) ||| ((1 : Int64) <<< ((y0).toInt32 &&& 0x3f).toInt64)) ||| ((1 : Int64) <<< ((y1).toInt32 &&& 0x3f).toInt64)) ||| ((1 : Int64) <<< ((y2).toInt32 &&& 0x3f).toInt64))), .second, .val (.ref (bs kb)), .val (.int (3 : Int32)), .val (.int (((0 : Int32) + (1 : Int32)) + (1 : Int32))), .val (.long y2), .second] (hb hby d4_39) rfl rfl ?_
        refine W.iinc X1 hx 43 (1 : Int32) #[.val (.ref o), .val (.int (Int32.ofNat kb)), .val (.long ((((0 : Int64) ||| ((1 : Int64) <<< ((y0).toInt32 &&& 0x3f).toInt64)) ||| ((1 : Int64) <<< ((y1).toInt32 &&& 0x3f).toInt64)) ||| ((1 : Int64) <<< ((y2).toInt32 &&& 0x3f).toInt64))), .second, .val (.ref (bs kb)), .val (.int (3 : Int32)), .val (.int ((((0 : Int32) + (1 : Int32)) + (1 : Int32)) + (1 : Int32))), .val (.long y2), .second] (hb hby d4_40) rfl rfl rfl rfl ?_
        refine W.goto X1 hx 18 (hb hby d4_43) (by decide) (by decide) ?_
        refine W.iload X1 hx 20 (hb hby d4_18) rfl rfl ?_
        refine W.iload X1 hx 22 (hb hby d4_20) rfl rfl ?_
        refine W.icmpGe X1 hx 46 25 (hb hby d4_22) (by decide) (by decide) rfl (fun q => ?_) (fun q => ?_)
        · skip
          refine W.lloadN X1 hx 47 (hb hby d4_46) rfl rfl ?_
          refine W.lret X1 hx hlk hret (hb hby d4_47) (by decide) (by decide) ?_
          exact ⟨rfl, e1, rfl⟩
        · exact absurd q (by decide)
set_option maxHeartbeats 4000000 in
theorem rmh (l : Launch) (Z : State) (a0 : Array Value) (hw : ∀ d ∈ tables_1, d.before a0 Z = true) (o bl : Addr) (bs : Nat → Addr) (xs : Nat → List Int64) (kb : Nat) (h0 : Heap) (I : FS Z h0 o bl bs xs) (hk : kb < 2) (hx : (xs kb).length < 4) :
    Con l Z (⟨"com/example/camf/camf/FingerprintStore", "heldMask", "(I)J"⟩ : MethodName) prog_13_method_5_code 9 (some .long) [] ({ frames := 0, cells := 0, slots := 0, locals := 0 } : Room) #[(.ref o), (.int (Int32.ofNat kb))] h0 (fun v h L => v = some (.long (own_or 0 (xs kb))) ∧ h = h0 ∧ L = []) := by
  match q : xs kb with
  | [] => exact rmh0 l Z a0 hw o bl bs xs kb h0 I hk q
  | [y0] => exact rmh1 l Z a0 hw o bl bs xs kb y0 h0 I hk q
  | [y0, y1] => exact rmh2 l Z a0 hw o bl bs xs kb y0 y1 h0 I hk q
  | [y0, y1, y2] => exact rmh3 l Z a0 hw o bl bs xs kb y0 y1 y2 h0 I hk q
  | y0 :: y1 :: y2 :: y3 :: r => rw [q] at hx; simp at hx; omega
theorem own_lm1 (k : Nat) (n1 : Nat) (g1 : Int64) : ((fun j => if j = n1 / 64 then (fun _ => []) j ++ [own_ent (Int32.ofNat n1) g1] else (fun _ => []) j) k).length ≤ 1 := by
  dsimp only
  by_cases r1 : k = n1 / 64
  · simp only [if_pos r1]; simp
  · simp only [if_neg r1]; simp
theorem own_q1 (k : Nat) (n1 : Nat) (g1 : Int64) (a1 : n1 < 128) (hk : k < 2) : own_or 0 ((fun j => if j = n1 / 64 then (fun _ => []) j ++ [own_ent (Int32.ofNat n1) g1] else (fun _ => []) j) k) = ((0 : Int64) ||| own_bit n1 k) := by
  unfold own_bit; dsimp only
  by_cases r1 : k = n1 / 64
  · simp only [if_pos r1]; simp [own_or, own_sle]
  · simp only [if_neg r1]; simp [own_or, own_sle]
theorem own_lm2 (k : Nat) (n1 n2 : Nat) (g1 g2 : Int64) : ((fun j => if j = n2 / 64 then (fun j => if j = n1 / 64 then (fun _ => []) j ++ [own_ent (Int32.ofNat n1) g1] else (fun _ => []) j) j ++ [own_ent (Int32.ofNat n2) g2] else (fun j => if j = n1 / 64 then (fun _ => []) j ++ [own_ent (Int32.ofNat n1) g1] else (fun _ => []) j) j) k).length ≤ 2 := by
  dsimp only
  by_cases r1 : k = n1 / 64
  · by_cases r2 : k = n2 / 64
    · simp only [if_pos r1, if_pos r2]; simp
    · simp only [if_pos r1, if_neg r2]; simp
  · by_cases r2 : k = n2 / 64
    · simp only [if_neg r1, if_pos r2]; simp
    · simp only [if_neg r1, if_neg r2]; simp
theorem own_q2 (k : Nat) (n1 n2 : Nat) (g1 g2 : Int64) (a1 : n1 < 128) (a2 : n2 < 128) (hk : k < 2) : own_or 0 ((fun j => if j = n2 / 64 then (fun j => if j = n1 / 64 then (fun _ => []) j ++ [own_ent (Int32.ofNat n1) g1] else (fun _ => []) j) j ++ [own_ent (Int32.ofNat n2) g2] else (fun j => if j = n1 / 64 then (fun _ => []) j ++ [own_ent (Int32.ofNat n1) g1] else (fun _ => []) j) j) k) = (((0 : Int64) ||| own_bit n1 k) ||| own_bit n2 k) := by
  unfold own_bit; dsimp only
  by_cases r1 : k = n1 / 64
  · by_cases r2 : k = n2 / 64
    · simp only [if_pos r1, if_pos r2]; simp [own_or, own_sle]
    · simp only [if_pos r1, if_neg r2]; simp [own_or, own_sle]
  · by_cases r2 : k = n2 / 64
    · simp only [if_neg r1, if_pos r2]; simp [own_or, own_sle]
    · simp only [if_neg r1, if_neg r2]; simp [own_or, own_sle]
theorem own_lm3 (k : Nat) (n1 n2 n3 : Nat) (g1 g2 g3 : Int64) : ((fun j => if j = n3 / 64 then (fun j => if j = n2 / 64 then (fun j => if j = n1 / 64 then (fun _ => []) j ++ [own_ent (Int32.ofNat n1) g1] else (fun _ => []) j) j ++ [own_ent (Int32.ofNat n2) g2] else (fun j => if j = n1 / 64 then (fun _ => []) j ++ [own_ent (Int32.ofNat n1) g1] else (fun _ => []) j) j) j ++ [own_ent (Int32.ofNat n3) g3] else (fun j => if j = n2 / 64 then (fun j => if j = n1 / 64 then (fun _ => []) j ++ [own_ent (Int32.ofNat n1) g1] else (fun _ => []) j) j ++ [own_ent (Int32.ofNat n2) g2] else (fun j => if j = n1 / 64 then (fun _ => []) j ++ [own_ent (Int32.ofNat n1) g1] else (fun _ => []) j) j) j) k).length ≤ 3 := by
  dsimp only
  by_cases r1 : k = n1 / 64
  · by_cases r2 : k = n2 / 64
    · by_cases r3 : k = n3 / 64
      · simp only [if_pos r1, if_pos r2, if_pos r3]; simp
      · simp only [if_pos r1, if_pos r2, if_neg r3]; simp
    · by_cases r3 : k = n3 / 64
      · simp only [if_pos r1, if_neg r2, if_pos r3]; simp
      · simp only [if_pos r1, if_neg r2, if_neg r3]; simp
  · by_cases r2 : k = n2 / 64
    · by_cases r3 : k = n3 / 64
      · simp only [if_neg r1, if_pos r2, if_pos r3]; simp
      · simp only [if_neg r1, if_pos r2, if_neg r3]; simp
    · by_cases r3 : k = n3 / 64
      · simp only [if_neg r1, if_neg r2, if_pos r3]; simp
      · simp only [if_neg r1, if_neg r2, if_neg r3]; simp
theorem own_q3 (k : Nat) (n1 n2 n3 : Nat) (g1 g2 g3 : Int64) (a1 : n1 < 128) (a2 : n2 < 128) (a3 : n3 < 128) (hk : k < 2) : own_or 0 ((fun j => if j = n3 / 64 then (fun j => if j = n2 / 64 then (fun j => if j = n1 / 64 then (fun _ => []) j ++ [own_ent (Int32.ofNat n1) g1] else (fun _ => []) j) j ++ [own_ent (Int32.ofNat n2) g2] else (fun j => if j = n1 / 64 then (fun _ => []) j ++ [own_ent (Int32.ofNat n1) g1] else (fun _ => []) j) j) j ++ [own_ent (Int32.ofNat n3) g3] else (fun j => if j = n2 / 64 then (fun j => if j = n1 / 64 then (fun _ => []) j ++ [own_ent (Int32.ofNat n1) g1] else (fun _ => []) j) j ++ [own_ent (Int32.ofNat n2) g2] else (fun j => if j = n1 / 64 then (fun _ => []) j ++ [own_ent (Int32.ofNat n1) g1] else (fun _ => []) j) j) j) k) = ((((0 : Int64) ||| own_bit n1 k) ||| own_bit n2 k) ||| own_bit n3 k) := by
  unfold own_bit; dsimp only
  by_cases r1 : k = n1 / 64
  · by_cases r2 : k = n2 / 64
    · by_cases r3 : k = n3 / 64
      · simp only [if_pos r1, if_pos r2, if_pos r3]; simp [own_or, own_sle]
      · simp only [if_pos r1, if_pos r2, if_neg r3]; simp [own_or, own_sle]
    · by_cases r3 : k = n3 / 64
      · simp only [if_pos r1, if_neg r2, if_pos r3]; simp [own_or, own_sle]
      · simp only [if_pos r1, if_neg r2, if_neg r3]; simp [own_or, own_sle]
  · by_cases r2 : k = n2 / 64
    · by_cases r3 : k = n3 / 64
      · simp only [if_neg r1, if_pos r2, if_pos r3]; simp [own_or, own_sle]
      · simp only [if_neg r1, if_pos r2, if_neg r3]; simp [own_or, own_sle]
    · by_cases r3 : k = n3 / 64
      · simp only [if_neg r1, if_neg r2, if_pos r3]; simp [own_or, own_sle]
      · simp only [if_neg r1, if_neg r2, if_neg r3]; simp [own_or, own_sle]
theorem pn_0 : plainName "com/example/camf/camf/FingerprintStoreHeldMaskPinLaw" = true := by first | (simp [plainName, overriddenIn]; done) | decide +kernel
theorem ef_rm0 (m : MethodId) (f1 : Int64) (f2 : Int64) (f3 : Int64) (p1 : Int32) (p2 : Int32) (p3 : Int32) : entryFrame m #[(.long f1), (.long f2), (.long f3), (.int p1), (.int p2), (.int p3)] maxLocals = mkF m 0 #[.val (.long f1), .second, .val (.long f2), .second, .val (.long f3), .second, .val (.int p1), .val (.int p2), .val (.int p3), .unset, .unset, .unset, .unset, .unset, .unset, .unset, .unset, .unset, .unset, .unset, .unset, .unset, .unset, .unset] [] := by first | (simp [entryFrame, mkF, argsToLocals, Value.category, maxLocals]; done) | rfl
set_option maxRecDepth 65536 in
set_option maxHeartbeats 40000000 in
theorem rm0 (l : Launch) (Z : State) (a0 : Array Value) (hw : ∀ d ∈ tables_1, d.before a0 Z = true) (ws : List Jvm.Cond) (f1 f2 f3 : Int64) (p1 p2 p3 : Int32) (em : Addr) (h0 : Heap) (n0 : Nat) (Z0 : n0 ≤ h0.size) (SE : Sta Z h0 "com/example/camf/camf/FingerprintStore" "EMPTY" "[J" (.ref em)) (LE : LArr Z h0 em []) :
    Con l Z x code maxLocals ret ws room_1 #[(.long f1), (.long f2), (.long f3), (.int p1), (.int p2), (.int p3)] h0 (fun v h L => v = some (.int 1) ∧ Fr n0 L) := by
  refine Con.of (plainFor_of_name pn_0) ?_
  intro p e s m below meth c s₁ hx hby hml hown hnm hret hlk hZ X0 e0
  refine Wp.enter (ef_rm0 m f1 f2 f3 p1 p2 p3) ?_
  refine W.iload X0 hx 2 (hb hby at_0) rfl rfl ?_
  refine W.bipush X0 hx 4 (7 : Int32) (hb hby at_2) rfl rfl ?_
  refine W.iushr X0 hx 5 (hb hby at_4) rfl ?_
  refine W.iconst X0 hx 6 (3 : Int32) (hb hby at_5) rfl rfl ?_
  refine W.iand X0 hx 7 (hb hby at_6) rfl ?_
  obtain ⟨t, ht, et⟩ := own_and ((p1).toUInt32 >>> ((7 : Int32) &&& 31).toUInt32).toInt32 3 (by decide)
  have ht : t ≤ 3 := by have e : (3 : Int32).toInt = 3 := rfl; omega
  have et := own_ieq et
  rw [et]
  refine W.istore X0 hx 9 #[.val (.long f1), .second, .val (.long f2), .second, .val (.long f3), .second, .val (.int p1), .val (.int p2), .val (.int p3), .val (.int (Int32.ofNat t)), .unset, .unset, .unset, .unset, .unset, .unset, .unset, .unset, .unset, .unset, .unset, .unset, .unset, .unset] (hb hby at_7) rfl rfl ?_
  refine W.iload X0 hx 11 (hb hby at_9) rfl rfl ?_
  refine W.bipush X0 hx 13 (127 : Int32) (hb hby at_11) rfl rfl ?_
  refine W.iand X0 hx 14 (hb hby at_13) rfl ?_
  obtain ⟨n1, hn1, en1⟩ := own_and p1 127 (by decide)
  have hn1 : n1 < 128 := by have e : (127 : Int32).toInt = 127 := rfl; omega
  have en1 := own_ieq en1
  rw [en1]
  refine W.istore X0 hx 16 #[.val (.long f1), .second, .val (.long f2), .second, .val (.long f3), .second, .val (.int p1), .val (.int p2), .val (.int p3), .val (.int (Int32.ofNat t)), .val (.int (Int32.ofNat n1)), .unset, .unset, .unset, .unset, .unset, .unset, .unset, .unset, .unset, .unset, .unset, .unset, .unset] (hb hby at_14) rfl rfl ?_
  refine W.iload X0 hx 18 (hb hby at_16) rfl rfl ?_
  refine W.bipush X0 hx 20 (127 : Int32) (hb hby at_18) rfl rfl ?_
  refine W.iand X0 hx 21 (hb hby at_20) rfl ?_
  obtain ⟨n2, hn2, en2⟩ := own_and p2 127 (by decide)
  have hn2 : n2 < 128 := by have e : (127 : Int32).toInt = 127 := rfl; omega
  have en2 := own_ieq en2
  rw [en2]
  refine W.istore X0 hx 23 #[.val (.long f1), .second, .val (.long f2), .second, .val (.long f3), .second, .val (.int p1), .val (.int p2), .val (.int p3), .val (.int (Int32.ofNat t)), .val (.int (Int32.ofNat n1)), .val (.int (Int32.ofNat n2)), .unset, .unset, .unset, .unset, .unset, .unset, .unset, .unset, .unset, .unset, .unset, .unset] (hb hby at_21) rfl rfl ?_
  refine W.iload X0 hx 25 (hb hby at_23) rfl rfl ?_
  refine W.bipush X0 hx 27 (127 : Int32) (hb hby at_25) rfl rfl ?_
  refine W.iand X0 hx 28 (hb hby at_27) rfl ?_
  obtain ⟨n3, hn3, en3⟩ := own_and p3 127 (by decide)
  have hn3 : n3 < 128 := by have e : (127 : Int32).toInt = 127 := rfl; omega
  have en3 := own_ieq en3
  rw [en3]
  refine W.istore X0 hx 30 #[.val (.long f1), .second, .val (.long f2), .second, .val (.long f3), .second, .val (.int p1), .val (.int p2), .val (.int p3), .val (.int (Int32.ofNat t)), .val (.int (Int32.ofNat n1)), .val (.int (Int32.ofNat n2)), .val (.int (Int32.ofNat n3)), .unset, .unset, .unset, .unset, .unset, .unset, .unset, .unset, .unset, .unset, .unset] (hb hby at_28) rfl rfl ?_
  refine W.lloadN X0 hx 31 (hb hby at_30) rfl rfl ?_
  refine W.ldcL X0 hx hZ 34 hown (hw _ (List.mem_of_getElem? (i := 0) rfl)) (hb hby at_31) rfl ?_
  refine W.land X0 hx 35 (hb hby at_34) rfl ?_
  generalize g_g1 : (f1 &&& (288230376151711743 : Int64)) = g1
  refine W.lstore X0 hx 37 #[.val (.long f1), .second, .val (.long f2), .second, .val (.long f3), .second, .val (.int p1), .val (.int p2), .val (.int p3), .val (.int (Int32.ofNat t)), .val (.int (Int32.ofNat n1)), .val (.int (Int32.ofNat n2)), .val (.int (Int32.ofNat n3)), .val (.long g1), .second, .unset, .unset, .unset, .unset, .unset, .unset, .unset, .unset, .unset] (hb hby at_35) rfl rfl ?_
  refine W.lloadN X0 hx 38 (hb hby at_37) rfl rfl ?_
  refine W.ldcL X0 hx hZ 41 hown (hw _ (List.mem_of_getElem? (i := 0) rfl)) (hb hby at_38) rfl ?_
  refine W.land X0 hx 42 (hb hby at_41) rfl ?_
  generalize g_g2 : (f2 &&& (288230376151711743 : Int64)) = g2
  refine W.lstore X0 hx 44 #[.val (.long f1), .second, .val (.long f2), .second, .val (.long f3), .second, .val (.int p1), .val (.int p2), .val (.int p3), .val (.int (Int32.ofNat t)), .val (.int (Int32.ofNat n1)), .val (.int (Int32.ofNat n2)), .val (.int (Int32.ofNat n3)), .val (.long g1), .second, .val (.long g2), .second, .unset, .unset, .unset, .unset, .unset, .unset, .unset] (hb hby at_42) rfl rfl ?_
  refine W.lload X0 hx 46 (hb hby at_44) rfl rfl ?_
  refine W.ldcL X0 hx hZ 49 hown (hw _ (List.mem_of_getElem? (i := 0) rfl)) (hb hby at_46) rfl ?_
  refine W.land X0 hx 50 (hb hby at_49) rfl ?_
  generalize g_g3 : (f3 &&& (288230376151711743 : Int64)) = g3
  refine W.lstore X0 hx 52 #[.val (.long f1), .second, .val (.long f2), .second, .val (.long f3), .second, .val (.int p1), .val (.int p2), .val (.int p3), .val (.int (Int32.ofNat t)), .val (.int (Int32.ofNat n1)), .val (.int (Int32.ofNat n2)), .val (.int (Int32.ofNat n3)), .val (.long g1), .second, .val (.long g2), .second, .val (.long g3), .second, .unset, .unset, .unset, .unset, .unset] (hb hby at_50) rfl rfl ?_
  obtain ⟨LE, EE⟩ := LE
  refine W.newO X0 hx hZ 55 hown (hw _ (List.mem_of_getElem? (i := 1) rfl)) (hw _ (List.mem_of_getElem? (i := 2) rfl)) (hw _ (List.mem_of_getElem? (i := 3) rfl)) e0 (hb hby at_52) (by decide) (by decide) rfl ?_
  intro T1 h1 o q1 X1 e1 E1 E D
  have ne_em_o : em ≠ o := fun q => by have := LE.lt; rw [q, q1] at this; exact Nat.lt_irrefl _ this
  have ge_o : n0 ≤ o := by have := Z0; omega
  have SE := SE.ext E1
  have LE := LE.ext E1
  have EE := EE.ext E1
  have z1 : n0 ≤ h1.size := Nat.le_trans Z0 E1.1
  have F1 := D (Or.inr (hw _ (List.mem_of_getElem? (i := 12) rfl))) (ty := .long) (by decide)
  have F2 := D (Or.inr (hw _ (List.mem_of_getElem? (i := 16) rfl))) (ty := (.array (.array .long))) (by decide)
  refine W.dup X1 hx 56 (hb hby at_55) rfl rfl ?_
  refine W.ldcL X1 hx hZ 59 hown (hw _ (List.mem_of_getElem? (i := 4) rfl)) (hb hby at_56) rfl ?_
  refine W.callI X1 hx hZ 62 1 o [(.long (128 : Int64))] rfl hown (hw _ (List.mem_of_getElem? (i := 5) rfl)) (hw _ (List.mem_of_getElem? (i := 6) rfl)) (hw _ (List.mem_of_getElem? (i := 3) rfl)) (hw _ (List.mem_of_getElem? (i := 7) rfl)) (by decide) pd_5 rfl e1 (rminit l Z a0 hw o em h1 n0 z1 E F1 F2 SE ⟨LE, EE⟩ ne_em_o ge_o) (hb hby at_59) (by rw [hml]; rfl) rfl rfl (by decide) (by decide) (by decide) (by decide) rfl ?_
  rintro v2 T2 L2 X2 ⟨rfl, N2, bl, ge_bl, I0, hz2⟩
  have z2 : n0 ≤ T2.heap.size := Nat.le_trans z1 hz2
  refine W.astore X2 hx 64 #[.val (.long f1), .second, .val (.long f2), .second, .val (.long f3), .second, .val (.int p1), .val (.int p2), .val (.int p3), .val (.int (Int32.ofNat t)), .val (.int (Int32.ofNat n1)), .val (.int (Int32.ofNat n2)), .val (.int (Int32.ofNat n3)), .val (.long g1), .second, .val (.long g2), .second, .val (.long g3), .second, .val (.ref o), .unset, .unset, .unset, .unset] (hb hby at_62) rfl rfl rfl ?_
  refine W.lconst X2 hx 65 (0 : Int64) (hb hby at_64) rfl rfl ?_
  refine W.lstore X2 hx 67 #[.val (.long f1), .second, .val (.long f2), .second, .val (.long f3), .second, .val (.int p1), .val (.int p2), .val (.int p3), .val (.int (Int32.ofNat t)), .val (.int (Int32.ofNat n1)), .val (.int (Int32.ofNat n2)), .val (.int (Int32.ofNat n3)), .val (.long g1), .second, .val (.long g2), .second, .val (.long g3), .second, .val (.ref o), .val (.long (0 : Int64)), .second, .unset, .unset] (hb hby at_65) rfl rfl ?_
  refine W.lconst X2 hx 68 (0 : Int64) (hb hby at_67) rfl rfl ?_
  refine W.lstore X2 hx 70 #[.val (.long f1), .second, .val (.long f2), .second, .val (.long f3), .second, .val (.int p1), .val (.int p2), .val (.int p3), .val (.int (Int32.ofNat t)), .val (.int (Int32.ofNat n1)), .val (.int (Int32.ofNat n2)), .val (.int (Int32.ofNat n3)), .val (.long g1), .second, .val (.long g2), .second, .val (.long g3), .second, .val (.ref o), .val (.long (0 : Int64)), .second, .val (.long (0 : Int64)), .second] (hb hby at_68) rfl rfl ?_
  refine W.iload X2 hx 72 (hb hby at_70) rfl rfl ?_
  refine W.iconst X2 hx 73 (1 : Int32) (hb hby at_72) rfl rfl ?_
  refine W.icmpLt X2 hx 108 76 (hb hby at_73) (by decide) (by decide) rfl (fun q1 => ?_) (fun q1 => ?_)
  · skip
    rw [show (1 : Int32) = Int32.ofNat 1 from rfl, own_lt (by omega) (by decide)] at q1
    refine W.iload X2 hx 110 (hb hby at_108) rfl rfl ?_
    refine W.iconst X2 hx 111 (2 : Int32) (hb hby at_110) rfl rfl ?_
    refine W.icmpLt X2 hx 146 114 (hb hby at_111) (by decide) (by decide) rfl (fun q2 => ?_) (fun q2 => ?_)
    · skip
      refine W.iload X2 hx 148 (hb hby at_146) rfl rfl ?_
      refine W.iconst X2 hx 149 (3 : Int32) (hb hby at_148) rfl rfl ?_
      refine W.icmpLt X2 hx 184 152 (hb hby at_149) (by decide) (by decide) rfl (fun q3 => ?_) (fun q3 => ?_)
      · skip
        refine W.aload X2 hx 186 (hb hby at_184) rfl rfl rfl ?_
        refine W.iconst X2 hx 187 (0 : Int32) (hb hby at_186) rfl rfl ?_
        refine W.callV X2 hx hZ 190 0 o [(.int (0 : Int32))] hown (hw _ (List.mem_of_getElem? (i := 24) rfl)) (hw _ (List.mem_of_getElem? (i := 25) rfl)) (hw _ (List.mem_of_getElem? (i := 27) rfl)) (hw _ (List.mem_of_getElem? (i := 26) rfl)) (hw _ (List.mem_of_getElem? (i := 3) rfl)) (hw _ (List.mem_of_getElem? (i := 28) rfl)) (by decide) pd_6 rfl rfl I0.1 (rmh l Z a0 hw o bl (fun _ => em) (fun _ => []) 0 T2.heap I0 (by decide) (by decide)) (hb hby at_187) (by rw [hml]; rfl) rfl rfl (by decide) (by decide) (by decide) (by decide) rfl ?_
        rintro v3 T3 L3 X3 ⟨rfl, e3, rfl⟩
        refine W.lload X3 hx 192 (hb hby at_190) rfl rfl ?_
        refine W.lcmp X3 hx 193 (hb hby at_192) rfl ?_
        refine W.lifNe X3 hx 212 196 (hb hby at_193) (by decide) (by decide) rfl (fun q => ?_) (fun q => ?_)
        · exact absurd rfl q
        · skip
          refine W.aload X3 hx 198 (hb hby at_196) rfl rfl rfl ?_
          refine W.iconst X3 hx 199 (1 : Int32) (hb hby at_198) rfl rfl ?_
          refine W.callV X3 hx hZ 202 0 o [(.int (1 : Int32))] hown (hw _ (List.mem_of_getElem? (i := 24) rfl)) (hw _ (List.mem_of_getElem? (i := 25) rfl)) (hw _ (List.mem_of_getElem? (i := 27) rfl)) (hw _ (List.mem_of_getElem? (i := 26) rfl)) (hw _ (List.mem_of_getElem? (i := 3) rfl)) (hw _ (List.mem_of_getElem? (i := 28) rfl)) (by decide) pd_6 rfl e3 I0.1 (rmh l Z a0 hw o bl (fun _ => em) (fun _ => []) 1 T2.heap I0 (by decide) (by decide)) (hb hby at_199) (by rw [hml]; rfl) rfl rfl (by decide) (by decide) (by decide) (by decide) rfl ?_
          rintro v4 T4 L4 X4 ⟨rfl, e4, rfl⟩
          refine W.lload X4 hx 204 (hb hby at_202) rfl rfl ?_
          refine W.lcmp X4 hx 205 (hb hby at_204) rfl ?_
          refine W.lifNe X4 hx 212 208 (hb hby at_205) (by decide) (by decide) rfl (fun q => ?_) (fun q => ?_)
          · exact absurd rfl q
          · skip
            refine W.iconst X4 hx 209 (1 : Int32) (hb hby at_208) rfl rfl ?_
            refine W.goto X4 hx 213 (hb hby at_209) (by decide) (by decide) ?_
            refine W.nret X4 hx hlk (t := .boolean) hret (by simp) (hb hby at_213) (by decide) (by decide) ?_
            exact ⟨rfl, (Fr.app (Fr.app (Fr.app (Fr.nil _) N2) (Fr.nil _)) (Fr.nil _))⟩
      · exact absurd (by rw [show (3 : Int32) = Int32.ofNat 3 from rfl, own_lt (by omega) (by decide)]; omega) q3
    · exact absurd (by rw [show (2 : Int32) = Int32.ofNat 2 from rfl, own_lt (by omega) (by decide)]; omega) q2
  · skip
    rw [show (1 : Int32) = Int32.ofNat 1 from rfl, own_lt (by omega) (by decide)] at q1
    refine W.aload X2 hx 78 (hb hby at_76) rfl rfl rfl ?_
    refine W.iload X2 hx 80 (hb hby at_78) rfl rfl ?_
    refine W.i2l X2 hx 81 (hb hby at_80) rfl ?_
    refine W.lload X2 hx 83 (hb hby at_81) rfl rfl ?_
    refine W.callV X2 hx hZ 86 0 o [(.long ((Int32.ofNat n1)).toInt64), (.long g1)] hown (hw _ (List.mem_of_getElem? (i := 29) rfl)) (hw _ (List.mem_of_getElem? (i := 30) rfl)) (hw _ (List.mem_of_getElem? (i := 32) rfl)) (hw _ (List.mem_of_getElem? (i := 31) rfl)) (hw _ (List.mem_of_getElem? (i := 3) rfl)) (hw _ (List.mem_of_getElem? (i := 33) rfl)) (by decide) pd_7 rfl rfl I0.1 (rmadd l Z a0 hw o bl (fun _ => em) (fun _ => []) n1 (n1 / 64) g1 T2.heap n0 z2 I0 hn1 rfl (by decide) ge_bl) (hb hby at_83) (by rw [hml]; rfl) rfl rfl (by decide) (by decide) (by decide) (by decide) rfl ?_
    rintro v5 T5 L5 X5 ⟨rfl, N5, K5, bs1, I1⟩
    have z5 : n0 ≤ T5.heap.size := Nat.le_trans z2 K5.1
    refine W.lload X5 hx 88 (hb hby at_86) rfl rfl ?_
    refine W.iload X5 hx 90 (hb hby at_88) rfl rfl ?_
    refine W.iconst X5 hx 91 (0 : Int32) (hb hby at_90) rfl rfl ?_
    refine W.callS X5 hx hZ 94 2 [(.int (Int32.ofNat n1)), (.int (0 : Int32))] hown (hw _ (List.mem_of_getElem? (i := 53) rfl)) (hw _ (List.mem_of_getElem? (i := 54) rfl)) (hw _ (List.mem_of_getElem? (i := 55) rfl)) (hw _ (List.mem_of_getElem? (i := 56) rfl)) (by decide) pd_8 rfl rfl (rm10 l Z a0 hw n1 0 T5.heap hn1 (by decide)) (hb hby at_91) (by rw [hml]; rfl) rfl rfl (by decide) (by decide) (by decide) (by decide) rfl ?_
    rintro v6 T6 L6 X6 ⟨rfl, e6, rfl⟩
    refine W.lor X6 hx 95 (hb hby at_94) rfl ?_
    refine W.lstore X6 hx 97 #[.val (.long f1), .second, .val (.long f2), .second, .val (.long f3), .second, .val (.int p1), .val (.int p2), .val (.int p3), .val (.int (Int32.ofNat t)), .val (.int (Int32.ofNat n1)), .val (.int (Int32.ofNat n2)), .val (.int (Int32.ofNat n3)), .val (.long g1), .second, .val (.long g2), .second, .val (.long g3), .second, .val (.ref o), .val (.long ((0 : Int64) ||| (own_bit n1 0))), .second, .val (.long (0 : Int64)), .second] (hb hby at_95) rfl rfl ?_
    refine W.lload X6 hx 99 (hb hby at_97) rfl rfl ?_
    refine W.iload X6 hx 101 (hb hby at_99) rfl rfl ?_
    refine W.iconst X6 hx 102 (1 : Int32) (hb hby at_101) rfl rfl ?_
    refine W.callS X6 hx hZ 105 2 [(.int (Int32.ofNat n1)), (.int (1 : Int32))] hown (hw _ (List.mem_of_getElem? (i := 53) rfl)) (hw _ (List.mem_of_getElem? (i := 54) rfl)) (hw _ (List.mem_of_getElem? (i := 55) rfl)) (hw _ (List.mem_of_getElem? (i := 56) rfl)) (by decide) pd_8 rfl e6 (rm10 l Z a0 hw n1 1 T5.heap hn1 (by decide)) (hb hby at_102) (by rw [hml]; rfl) rfl rfl (by decide) (by decide) (by decide) (by decide) rfl ?_
    rintro v7 T7 L7 X7 ⟨rfl, e7, rfl⟩
    refine W.lor X7 hx 106 (hb hby at_105) rfl ?_
    refine W.lstore X7 hx 108 #[.val (.long f1), .second, .val (.long f2), .second, .val (.long f3), .second, .val (.int p1), .val (.int p2), .val (.int p3), .val (.int (Int32.ofNat t)), .val (.int (Int32.ofNat n1)), .val (.int (Int32.ofNat n2)), .val (.int (Int32.ofNat n3)), .val (.long g1), .second, .val (.long g2), .second, .val (.long g3), .second, .val (.ref o), .val (.long ((0 : Int64) ||| (own_bit n1 0))), .second, .val (.long ((0 : Int64) ||| (own_bit n1 1))), .second] (hb hby at_106) rfl rfl ?_
    refine W.iload X7 hx 110 (hb hby at_108) rfl rfl ?_
    refine W.iconst X7 hx 111 (2 : Int32) (hb hby at_110) rfl rfl ?_
    refine W.icmpLt X7 hx 146 114 (hb hby at_111) (by decide) (by decide) rfl (fun q2 => ?_) (fun q2 => ?_)
    · skip
      rw [show (2 : Int32) = Int32.ofNat 2 from rfl, own_lt (by omega) (by decide)] at q2
      refine W.iload X7 hx 148 (hb hby at_146) rfl rfl ?_
      refine W.iconst X7 hx 149 (3 : Int32) (hb hby at_148) rfl rfl ?_
      refine W.icmpLt X7 hx 184 152 (hb hby at_149) (by decide) (by decide) rfl (fun q3 => ?_) (fun q3 => ?_)
      · skip
        refine W.aload X7 hx 186 (hb hby at_184) rfl rfl rfl ?_
        refine W.iconst X7 hx 187 (0 : Int32) (hb hby at_186) rfl rfl ?_
        refine W.callV X7 hx hZ 190 0 o [(.int (0 : Int32))] hown (hw _ (List.mem_of_getElem? (i := 24) rfl)) (hw _ (List.mem_of_getElem? (i := 25) rfl)) (hw _ (List.mem_of_getElem? (i := 27) rfl)) (hw _ (List.mem_of_getElem? (i := 26) rfl)) (hw _ (List.mem_of_getElem? (i := 3) rfl)) (hw _ (List.mem_of_getElem? (i := 28) rfl)) (by decide) pd_6 rfl e7 I1.1 (rmh l Z a0 hw o bl bs1 (fun j => if j = n1 / 64 then (fun _ => []) j ++ [own_ent (Int32.ofNat n1) g1] else (fun _ => []) j) 0 T5.heap I1 (by decide) (Nat.lt_of_le_of_lt (own_lm1 0 n1 g1) (by decide))) (hb hby at_187) (by rw [hml]; rfl) rfl rfl (by decide) (by decide) (by decide) (by decide) rfl ?_
        rintro v8 T8 L8 X8 ⟨rfl, e8, rfl⟩
        refine W.lload X8 hx 192 (hb hby at_190) rfl rfl ?_
        refine W.lcmp X8 hx 193 (hb hby at_192) rfl ?_
        refine W.lifNe X8 hx 212 196 (hb hby at_193) (by decide) (by decide) rfl (fun q => ?_) (fun q => ?_)
        · exact absurd (own_q1 0 n1 g1 hn1 (by decide)) q
        · skip
          refine W.aload X8 hx 198 (hb hby at_196) rfl rfl rfl ?_
          refine W.iconst X8 hx 199 (1 : Int32) (hb hby at_198) rfl rfl ?_
          refine W.callV X8 hx hZ 202 0 o [(.int (1 : Int32))] hown (hw _ (List.mem_of_getElem? (i := 24) rfl)) (hw _ (List.mem_of_getElem? (i := 25) rfl)) (hw _ (List.mem_of_getElem? (i := 27) rfl)) (hw _ (List.mem_of_getElem? (i := 26) rfl)) (hw _ (List.mem_of_getElem? (i := 3) rfl)) (hw _ (List.mem_of_getElem? (i := 28) rfl)) (by decide) pd_6 rfl e8 I1.1 (rmh l Z a0 hw o bl bs1 (fun j => if j = n1 / 64 then (fun _ => []) j ++ [own_ent (Int32.ofNat n1) g1] else (fun _ => []) j) 1 T5.heap I1 (by decide) (Nat.lt_of_le_of_lt (own_lm1 1 n1 g1) (by decide))) (hb hby at_199) (by rw [hml]; rfl) rfl rfl (by decide) (by decide) (by decide) (by decide) rfl ?_
          rintro v9 T9 L9 X9 ⟨rfl, e9, rfl⟩
          refine W.lload X9 hx 204 (hb hby at_202) rfl rfl ?_
          refine W.lcmp X9 hx 205 (hb hby at_204) rfl ?_
          refine W.lifNe X9 hx 212 208 (hb hby at_205) (by decide) (by decide) rfl (fun q => ?_) (fun q => ?_)
          · exact absurd (own_q1 1 n1 g1 hn1 (by decide)) q
          · skip
            refine W.iconst X9 hx 209 (1 : Int32) (hb hby at_208) rfl rfl ?_
            refine W.goto X9 hx 213 (hb hby at_209) (by decide) (by decide) ?_
            refine W.nret X9 hx hlk (t := .boolean) hret (by simp) (hb hby at_213) (by decide) (by decide) ?_
            exact ⟨rfl, (Fr.app (Fr.app (Fr.app (Fr.app (Fr.app (Fr.app (Fr.nil _) N2) N5) (Fr.nil _)) (Fr.nil _)) (Fr.nil _)) (Fr.nil _))⟩
      · exact absurd (by rw [show (3 : Int32) = Int32.ofNat 3 from rfl, own_lt (by omega) (by decide)]; omega) q3
    · skip
      rw [show (2 : Int32) = Int32.ofNat 2 from rfl, own_lt (by omega) (by decide)] at q2
      refine W.aload X7 hx 116 (hb hby at_114) rfl rfl rfl ?_
      refine W.iload X7 hx 118 (hb hby at_116) rfl rfl ?_
      refine W.i2l X7 hx 119 (hb hby at_118) rfl ?_
      refine W.lload X7 hx 121 (hb hby at_119) rfl rfl ?_
      refine W.callV X7 hx hZ 124 0 o [(.long ((Int32.ofNat n2)).toInt64), (.long g2)] hown (hw _ (List.mem_of_getElem? (i := 29) rfl)) (hw _ (List.mem_of_getElem? (i := 30) rfl)) (hw _ (List.mem_of_getElem? (i := 32) rfl)) (hw _ (List.mem_of_getElem? (i := 31) rfl)) (hw _ (List.mem_of_getElem? (i := 3) rfl)) (hw _ (List.mem_of_getElem? (i := 33) rfl)) (by decide) pd_7 rfl e7 I1.1 (rmadd l Z a0 hw o bl bs1 (fun j => if j = n1 / 64 then (fun _ => []) j ++ [own_ent (Int32.ofNat n1) g1] else (fun _ => []) j) n2 (n2 / 64) g2 T5.heap n0 z5 I1 hn2 rfl (Nat.lt_of_le_of_lt (own_lm1 (n2 / 64) n1 g1) (by decide)) ge_bl) (hb hby at_121) (by rw [hml]; rfl) rfl rfl (by decide) (by decide) (by decide) (by decide) rfl ?_
      rintro v10 T10 L10 X10 ⟨rfl, N10, K10, bs2, I2⟩
      have z10 : n0 ≤ T10.heap.size := Nat.le_trans z5 K10.1
      refine W.lload X10 hx 126 (hb hby at_124) rfl rfl ?_
      refine W.iload X10 hx 128 (hb hby at_126) rfl rfl ?_
      refine W.iconst X10 hx 129 (0 : Int32) (hb hby at_128) rfl rfl ?_
      refine W.callS X10 hx hZ 132 2 [(.int (Int32.ofNat n2)), (.int (0 : Int32))] hown (hw _ (List.mem_of_getElem? (i := 53) rfl)) (hw _ (List.mem_of_getElem? (i := 54) rfl)) (hw _ (List.mem_of_getElem? (i := 55) rfl)) (hw _ (List.mem_of_getElem? (i := 56) rfl)) (by decide) pd_8 rfl rfl (rm10 l Z a0 hw n2 0 T10.heap hn2 (by decide)) (hb hby at_129) (by rw [hml]; rfl) rfl rfl (by decide) (by decide) (by decide) (by decide) rfl ?_
      rintro v11 T11 L11 X11 ⟨rfl, e11, rfl⟩
      refine W.lor X11 hx 133 (hb hby at_132) rfl ?_
      refine W.lstore X11 hx 135 #[.val (.long f1), .second, .val (.long f2), .second, .val (.long f3), .second, .val (.int p1), .val (.int p2), .val (.int p3), .val (.int (Int32.ofNat t)), .val (.int (Int32.ofNat n1)), .val (.int (Int32.ofNat n2)), .val (.int (Int32.ofNat n3)), .val (.long g1), .second, .val (.long g2), .second, .val (.long g3), .second, .val (.ref o), .val (.long (((0 : Int64) ||| (own_bit n1 0)) ||| (own_bit n2 0))), .second, .val (.long ((0 : Int64) ||| (own_bit n1 1))), .second] (hb hby at_133) rfl rfl ?_
      refine W.lload X11 hx 137 (hb hby at_135) rfl rfl ?_
      refine W.iload X11 hx 139 (hb hby at_137) rfl rfl ?_
      refine W.iconst X11 hx 140 (1 : Int32) (hb hby at_139) rfl rfl ?_
      refine W.callS X11 hx hZ 143 2 [(.int (Int32.ofNat n2)), (.int (1 : Int32))] hown (hw _ (List.mem_of_getElem? (i := 53) rfl)) (hw _ (List.mem_of_getElem? (i := 54) rfl)) (hw _ (List.mem_of_getElem? (i := 55) rfl)) (hw _ (List.mem_of_getElem? (i := 56) rfl)) (by decide) pd_8 rfl e11 (rm10 l Z a0 hw n2 1 T10.heap hn2 (by decide)) (hb hby at_140) (by rw [hml]; rfl) rfl rfl (by decide) (by decide) (by decide) (by decide) rfl ?_
      rintro v12 T12 L12 X12 ⟨rfl, e12, rfl⟩
      refine W.lor X12 hx 144 (hb hby at_143) rfl ?_
      refine W.lstore X12 hx 146 #[.val (.long f1), .second, .val (.long f2), .second, .val (.long f3), .second, .val (.int p1), .val (.int p2), .val (.int p3), .val (.int (Int32.ofNat t)), .val (.int (Int32.ofNat n1)), .val (.int (Int32.ofNat n2)), .val (.int (Int32.ofNat n3)), .val (.long g1), .second, .val (.long g2), .second, .val (.long g3), .second, .val (.ref o), .val (.long (((0 : Int64) ||| (own_bit n1 0)) ||| (own_bit n2 0))), .second, .val (.long (((0 : Int64) ||| (own_bit n1 1)) ||| (own_bit n2 1))), .second] (hb hby at_144) rfl rfl ?_
      refine W.iload X12 hx 148 (hb hby at_146) rfl rfl ?_
      refine W.iconst X12 hx 149 (3 : Int32) (hb hby at_148) rfl rfl ?_
      refine W.icmpLt X12 hx 184 152 (hb hby at_149) (by decide) (by decide) rfl (fun q3 => ?_) (fun q3 => ?_)
      · skip
        rw [show (3 : Int32) = Int32.ofNat 3 from rfl, own_lt (by omega) (by decide)] at q3
        refine W.aload X12 hx 186 (hb hby at_184) rfl rfl rfl ?_
        refine W.iconst X12 hx 187 (0 : Int32) (hb hby at_186) rfl rfl ?_
        refine W.callV X12 hx hZ 190 0 o [(.int (0 : Int32))] hown (hw _ (List.mem_of_getElem? (i := 24) rfl)) (hw _ (List.mem_of_getElem? (i := 25) rfl)) (hw _ (List.mem_of_getElem? (i := 27) rfl)) (hw _ (List.mem_of_getElem? (i := 26) rfl)) (hw _ (List.mem_of_getElem? (i := 3) rfl)) (hw _ (List.mem_of_getElem? (i := 28) rfl)) (by decide) pd_6 rfl e12 I2.1 (rmh l Z a0 hw o bl bs2 (fun j => if j = n2 / 64 then (fun j => if j = n1 / 64 then (fun _ => []) j ++ [own_ent (Int32.ofNat n1) g1] else (fun _ => []) j) j ++ [own_ent (Int32.ofNat n2) g2] else (fun j => if j = n1 / 64 then (fun _ => []) j ++ [own_ent (Int32.ofNat n1) g1] else (fun _ => []) j) j) 0 T10.heap I2 (by decide) (Nat.lt_of_le_of_lt (own_lm2 0 n1 n2 g1 g2) (by decide))) (hb hby at_187) (by rw [hml]; rfl) rfl rfl (by decide) (by decide) (by decide) (by decide) rfl ?_
        rintro v13 T13 L13 X13 ⟨rfl, e13, rfl⟩
        refine W.lload X13 hx 192 (hb hby at_190) rfl rfl ?_
        refine W.lcmp X13 hx 193 (hb hby at_192) rfl ?_
        refine W.lifNe X13 hx 212 196 (hb hby at_193) (by decide) (by decide) rfl (fun q => ?_) (fun q => ?_)
        · exact absurd (own_q2 0 n1 n2 g1 g2 hn1 hn2 (by decide)) q
        · skip
          refine W.aload X13 hx 198 (hb hby at_196) rfl rfl rfl ?_
          refine W.iconst X13 hx 199 (1 : Int32) (hb hby at_198) rfl rfl ?_
          refine W.callV X13 hx hZ 202 0 o [(.int (1 : Int32))] hown (hw _ (List.mem_of_getElem? (i := 24) rfl)) (hw _ (List.mem_of_getElem? (i := 25) rfl)) (hw _ (List.mem_of_getElem? (i := 27) rfl)) (hw _ (List.mem_of_getElem? (i := 26) rfl)) (hw _ (List.mem_of_getElem? (i := 3) rfl)) (hw _ (List.mem_of_getElem? (i := 28) rfl)) (by decide) pd_6 rfl e13 I2.1 (rmh l Z a0 hw o bl bs2 (fun j => if j = n2 / 64 then (fun j => if j = n1 / 64 then (fun _ => []) j ++ [own_ent (Int32.ofNat n1) g1] else (fun _ => []) j) j ++ [own_ent (Int32.ofNat n2) g2] else (fun j => if j = n1 / 64 then (fun _ => []) j ++ [own_ent (Int32.ofNat n1) g1] else (fun _ => []) j) j) 1 T10.heap I2 (by decide) (Nat.lt_of_le_of_lt (own_lm2 1 n1 n2 g1 g2) (by decide))) (hb hby at_199) (by rw [hml]; rfl) rfl rfl (by decide) (by decide) (by decide) (by decide) rfl ?_
          rintro v14 T14 L14 X14 ⟨rfl, e14, rfl⟩
          refine W.lload X14 hx 204 (hb hby at_202) rfl rfl ?_
          refine W.lcmp X14 hx 205 (hb hby at_204) rfl ?_
          refine W.lifNe X14 hx 212 208 (hb hby at_205) (by decide) (by decide) rfl (fun q => ?_) (fun q => ?_)
          · exact absurd (own_q2 1 n1 n2 g1 g2 hn1 hn2 (by decide)) q
          · skip
            refine W.iconst X14 hx 209 (1 : Int32) (hb hby at_208) rfl rfl ?_
            refine W.goto X14 hx 213 (hb hby at_209) (by decide) (by decide) ?_
            refine W.nret X14 hx hlk (t := .boolean) hret (by simp) (hb hby at_213) (by decide) (by decide) ?_
            exact ⟨rfl, (Fr.app (Fr.app (Fr.app (Fr.app (Fr.app (Fr.app (Fr.app (Fr.app (Fr.app (Fr.nil _) N2) N5) (Fr.nil _)) (Fr.nil _)) N10) (Fr.nil _)) (Fr.nil _)) (Fr.nil _)) (Fr.nil _))⟩
      · skip
        rw [show (3 : Int32) = Int32.ofNat 3 from rfl, own_lt (by omega) (by decide)] at q3
        refine W.aload X12 hx 154 (hb hby at_152) rfl rfl rfl ?_
        refine W.iload X12 hx 156 (hb hby at_154) rfl rfl ?_
        refine W.i2l X12 hx 157 (hb hby at_156) rfl ?_
        refine W.lload X12 hx 159 (hb hby at_157) rfl rfl ?_
        refine W.callV X12 hx hZ 162 0 o [(.long ((Int32.ofNat n3)).toInt64), (.long g3)] hown (hw _ (List.mem_of_getElem? (i := 29) rfl)) (hw _ (List.mem_of_getElem? (i := 30) rfl)) (hw _ (List.mem_of_getElem? (i := 32) rfl)) (hw _ (List.mem_of_getElem? (i := 31) rfl)) (hw _ (List.mem_of_getElem? (i := 3) rfl)) (hw _ (List.mem_of_getElem? (i := 33) rfl)) (by decide) pd_7 rfl e12 I2.1 (rmadd l Z a0 hw o bl bs2 (fun j => if j = n2 / 64 then (fun j => if j = n1 / 64 then (fun _ => []) j ++ [own_ent (Int32.ofNat n1) g1] else (fun _ => []) j) j ++ [own_ent (Int32.ofNat n2) g2] else (fun j => if j = n1 / 64 then (fun _ => []) j ++ [own_ent (Int32.ofNat n1) g1] else (fun _ => []) j) j) n3 (n3 / 64) g3 T10.heap n0 z10 I2 hn3 rfl (Nat.lt_of_le_of_lt (own_lm2 (n3 / 64) n1 n2 g1 g2) (by decide)) ge_bl) (hb hby at_159) (by rw [hml]; rfl) rfl rfl (by decide) (by decide) (by decide) (by decide) rfl ?_
        rintro v15 T15 L15 X15 ⟨rfl, N15, K15, bs3, I3⟩
        have z15 : n0 ≤ T15.heap.size := Nat.le_trans z10 K15.1
        refine W.lload X15 hx 164 (hb hby at_162) rfl rfl ?_
        refine W.iload X15 hx 166 (hb hby at_164) rfl rfl ?_
        refine W.iconst X15 hx 167 (0 : Int32) (hb hby at_166) rfl rfl ?_
        refine W.callS X15 hx hZ 170 2 [(.int (Int32.ofNat n3)), (.int (0 : Int32))] hown (hw _ (List.mem_of_getElem? (i := 53) rfl)) (hw _ (List.mem_of_getElem? (i := 54) rfl)) (hw _ (List.mem_of_getElem? (i := 55) rfl)) (hw _ (List.mem_of_getElem? (i := 56) rfl)) (by decide) pd_8 rfl rfl (rm10 l Z a0 hw n3 0 T15.heap hn3 (by decide)) (hb hby at_167) (by rw [hml]; rfl) rfl rfl (by decide) (by decide) (by decide) (by decide) rfl ?_
        rintro v16 T16 L16 X16 ⟨rfl, e16, rfl⟩
        refine W.lor X16 hx 171 (hb hby at_170) rfl ?_
        refine W.lstore X16 hx 173 #[.val (.long f1), .second, .val (.long f2), .second, .val (.long f3), .second, .val (.int p1), .val (.int p2), .val (.int p3), .val (.int (Int32.ofNat t)), .val (.int (Int32.ofNat n1)), .val (.int (Int32.ofNat n2)), .val (.int (Int32.ofNat n3)), .val (.long g1), .second, .val (.long g2), .second, .val (.long g3), .second, .val (.ref o), .val (.long ((((0 : Int64) ||| (own_bit n1 0)) ||| (own_bit n2 0)) ||| (own_bit n3 0))), .second, .val (.long (((0 : Int64) ||| (own_bit n1 1)) ||| (own_bit n2 1))), .second] (hb hby at_171) rfl rfl ?_
        refine W.lload X16 hx 175 (hb hby at_173) rfl rfl ?_
        refine W.iload X16 hx 177 (hb hby at_175) rfl rfl ?_
        refine W.iconst X16 hx 178 (1 : Int32) (hb hby at_177) rfl rfl ?_
        refine W.callS X16 hx hZ 181 2 [(.int (Int32.ofNat n3)), (.int (1 : Int32))] hown (hw _ (List.mem_of_getElem? (i := 53) rfl)) (hw _ (List.mem_of_getElem? (i := 54) rfl)) (hw _ (List.mem_of_getElem? (i := 55) rfl)) (hw _ (List.mem_of_getElem? (i := 56) rfl)) (by decide) pd_8 rfl e16 (rm10 l Z a0 hw n3 1 T15.heap hn3 (by decide)) (hb hby at_178) (by rw [hml]; rfl) rfl rfl (by decide) (by decide) (by decide) (by decide) rfl ?_
        rintro v17 T17 L17 X17 ⟨rfl, e17, rfl⟩
        refine W.lor X17 hx 182 (hb hby at_181) rfl ?_
        refine W.lstore X17 hx 184 #[.val (.long f1), .second, .val (.long f2), .second, .val (.long f3), .second, .val (.int p1), .val (.int p2), .val (.int p3), .val (.int (Int32.ofNat t)), .val (.int (Int32.ofNat n1)), .val (.int (Int32.ofNat n2)), .val (.int (Int32.ofNat n3)), .val (.long g1), .second, .val (.long g2), .second, .val (.long g3), .second, .val (.ref o), .val (.long ((((0 : Int64) ||| (own_bit n1 0)) ||| (own_bit n2 0)) ||| (own_bit n3 0))), .second, .val (.long ((((0 : Int64) ||| (own_bit n1 1)) ||| (own_bit n2 1)) ||| (own_bit n3 1))), .second] (hb hby at_182) rfl rfl ?_
        refine W.aload X17 hx 186 (hb hby at_184) rfl rfl rfl ?_
        refine W.iconst X17 hx 187 (0 : Int32) (hb hby at_186) rfl rfl ?_
        refine W.callV X17 hx hZ 190 0 o [(.int (0 : Int32))] hown (hw _ (List.mem_of_getElem? (i := 24) rfl)) (hw _ (List.mem_of_getElem? (i := 25) rfl)) (hw _ (List.mem_of_getElem? (i := 27) rfl)) (hw _ (List.mem_of_getElem? (i := 26) rfl)) (hw _ (List.mem_of_getElem? (i := 3) rfl)) (hw _ (List.mem_of_getElem? (i := 28) rfl)) (by decide) pd_6 rfl e17 I3.1 (rmh l Z a0 hw o bl bs3 (fun j => if j = n3 / 64 then (fun j => if j = n2 / 64 then (fun j => if j = n1 / 64 then (fun _ => []) j ++ [own_ent (Int32.ofNat n1) g1] else (fun _ => []) j) j ++ [own_ent (Int32.ofNat n2) g2] else (fun j => if j = n1 / 64 then (fun _ => []) j ++ [own_ent (Int32.ofNat n1) g1] else (fun _ => []) j) j) j ++ [own_ent (Int32.ofNat n3) g3] else (fun j => if j = n2 / 64 then (fun j => if j = n1 / 64 then (fun _ => []) j ++ [own_ent (Int32.ofNat n1) g1] else (fun _ => []) j) j ++ [own_ent (Int32.ofNat n2) g2] else (fun j => if j = n1 / 64 then (fun _ => []) j ++ [own_ent (Int32.ofNat n1) g1] else (fun _ => []) j) j) j) 0 T15.heap I3 (by decide) (Nat.lt_of_le_of_lt (own_lm3 0 n1 n2 n3 g1 g2 g3) (by decide))) (hb hby at_187) (by rw [hml]; rfl) rfl rfl (by decide) (by decide) (by decide) (by decide) rfl ?_
        rintro v18 T18 L18 X18 ⟨rfl, e18, rfl⟩
        refine W.lload X18 hx 192 (hb hby at_190) rfl rfl ?_
        refine W.lcmp X18 hx 193 (hb hby at_192) rfl ?_
        refine W.lifNe X18 hx 212 196 (hb hby at_193) (by decide) (by decide) rfl (fun q => ?_) (fun q => ?_)
        · exact absurd (own_q3 0 n1 n2 n3 g1 g2 g3 hn1 hn2 hn3 (by decide)) q
        · skip
          refine W.aload X18 hx 198 (hb hby at_196) rfl rfl rfl ?_
          refine W.iconst X18 hx 199 (1 : Int32) (hb hby at_198) rfl rfl ?_
          refine W.callV X18 hx hZ 202 0 o [(.int (1 : Int32))] hown (hw _ (List.mem_of_getElem? (i := 24) rfl)) (hw _ (List.mem_of_getElem? (i := 25) rfl)) (hw _ (List.mem_of_getElem? (i := 27) rfl)) (hw _ (List.mem_of_getElem? (i := 26) rfl)) (hw _ (List.mem_of_getElem? (i := 3) rfl)) (hw _ (List.mem_of_getElem? (i := 28) rfl)) (by decide) pd_6 rfl e18 I3.1 (rmh l Z a0 hw o bl bs3 (fun j => if j = n3 / 64 then (fun j => if j = n2 / 64 then (fun j => if j = n1 / 64 then (fun _ => []) j ++ [own_ent (Int32.ofNat n1) g1] else (fun _ => []) j) j ++ [own_ent (Int32.ofNat n2) g2] else (fun j => if j = n1 / 64 then (fun _ => []) j ++ [own_ent (Int32.ofNat n1) g1] else (fun _ => []) j) j) j ++ [own_ent (Int32.ofNat n3) g3] else (fun j => if j = n2 / 64 then (fun j => if j = n1 / 64 then (fun _ => []) j ++ [own_ent (Int32.ofNat n1) g1] else (fun _ => []) j) j ++ [own_ent (Int32.ofNat n2) g2] else (fun j => if j = n1 / 64 then (fun _ => []) j ++ [own_ent (Int32.ofNat n1) g1] else (fun _ => []) j) j) j) 1 T15.heap I3 (by decide) (Nat.lt_of_le_of_lt (own_lm3 1 n1 n2 n3 g1 g2 g3) (by decide))) (hb hby at_199) (by rw [hml]; rfl) rfl rfl (by decide) (by decide) (by decide) (by decide) rfl ?_
          rintro v19 T19 L19 X19 ⟨rfl, e19, rfl⟩
          refine W.lload X19 hx 204 (hb hby at_202) rfl rfl ?_
          refine W.lcmp X19 hx 205 (hb hby at_204) rfl ?_
          refine W.lifNe X19 hx 212 208 (hb hby at_205) (by decide) (by decide) rfl (fun q => ?_) (fun q => ?_)
          · exact absurd (own_q3 1 n1 n2 n3 g1 g2 g3 hn1 hn2 hn3 (by decide)) q
          · skip
            refine W.iconst X19 hx 209 (1 : Int32) (hb hby at_208) rfl rfl ?_
            refine W.goto X19 hx 213 (hb hby at_209) (by decide) (by decide) ?_
            refine W.nret X19 hx hlk (t := .boolean) hret (by simp) (hb hby at_213) (by decide) (by decide) ?_
            exact ⟨rfl, (Fr.app (Fr.app (Fr.app (Fr.app (Fr.app (Fr.app (Fr.app (Fr.app (Fr.app (Fr.app (Fr.app (Fr.app (Fr.nil _) N2) N5) (Fr.nil _)) (Fr.nil _)) N10) (Fr.nil _)) (Fr.nil _)) N15) (Fr.nil _)) (Fr.nil _)) (Fr.nil _)) (Fr.nil _))⟩
set_option maxRecDepth 65536 in
set_option maxHeartbeats 40000000 in
theorem comes_1 {Post : Tables → Env → Array Value → State → Outcome → State → Prop} (hpost : ∀ tb e args s v u, (limb_1_1.after args s (.returned v) u = true ∧ limb_1_2.after args s (.returned v) u = true ∧ True) → FrameEnd s (.returned v) u (Jvm.fieldLocs frame_1_writes args s ++ Jvm.arrayLocs frame_1_arrays args s ++ Jvm.staticLocs frame_1_statics s) 24 128 → Post tb e args s (.returned v) u) :
    ArmFor flags0 classFile x code maxLocals ret World_1 tables_1 room_1 Calls_1 rest_1 Pre_1 Post := by
  intro l hfl _ _ p e ha hc hk s m args below hf hA hF happ hP
  obtain ⟨hcalls, hrest, hpre⟩ := hP
  obtain ⟨-, -, -, hnamed, -, -, -, hat⟩ := (Spec.applies_iff hf).mp happ
  obtain ⟨hg, hn⟩ := and_e (Cond.before_iff.mp (show (Jvm.Cond.and given_1 narrow_1).before args s = true from hpre))
  obtain ⟨hcount, hg0⟩ := and_e hg
  obtain ⟨k0, hg1⟩ := and_e hg0
  obtain ⟨k1, hg2⟩ := and_e hg1
  obtain ⟨k2, hg3⟩ := and_e hg2
  obtain ⟨k3, hg4⟩ := and_e hg3
  obtain ⟨k4, hg5⟩ := and_e hg4
  have k5 := hg5
  obtain ⟨w0, w1, w2, w3, w4, w5, rfl⟩ : ∃ w0 w1 w2 w3 w4 w5 : Value, args = #[w0, w1, w2, w3, w4, w5] := by
    have hs : args.size = 6 := by simpa [Cond.value, given_1] using hcount
    obtain ⟨L⟩ := args
    match L, hs with
    | [w0, w1, w2, w3, w4, w5], _ => exact ⟨w0, w1, w2, w3, w4, w5, rfl⟩
  have hw := fun d (hd : d ∈ tables_1) => atoms_spec (ws := Jvm.Cond.code x code maxLocals ret :: tables_1) hat d (List.mem_cons_of_mem _ hd)
  have hfit : Fit s := fun {y c} hc i hi => by
    obtain ⟨ha, rfl⟩ := Array.getElem?_eq_some_iff.mp hc
    have q := List.all_eq_true.mp ((Array.all_eq_true_iff_forall_mem.mp hF) _ (Array.getElem_mem ha)) i (List.mem_range.mpr hi)
    simpa [Array.getElem?_eq_getElem hi] using q
  obtain ⟨i0, j0⟩ := isL_v k0
  obtain rfl : w0 = (.long i0) := Option.some.inj j0
  obtain ⟨i1, j1⟩ := isL_v k1
  obtain rfl : w1 = (.long i1) := Option.some.inj j1
  obtain ⟨i2, j2⟩ := isL_v k2
  obtain rfl : w2 = (.long i2) := Option.some.inj j2
  obtain ⟨i3, j3⟩ := is_v k3
  obtain rfl : w3 = (.int i3) := Option.some.inj j3
  obtain ⟨i4, j4⟩ := is_v k4
  obtain rfl : w4 = (.int i4) := Option.some.inj j4
  obtain ⟨i5, j5⟩ := is_v k5
  obtain rfl : w5 = (.int i5) := Option.some.inj j5
  obtain ⟨x1, hn⟩ := and_e hn
  obtain ⟨x2, x3⟩ := and_e hn
  obtain ⟨em, v1⟩ := exa_v x2
  have EE := Exa.start v1 x2
  have SE := Sta.start v1 (Or.inr ⟨(hw _ (List.mem_of_getElem? (i := 3) rfl)), (hw _ (List.mem_of_getElem? (i := 18) rfl))⟩)
  obtain ⟨cl, A⟩ := Arr.start v1 x1
  have SZ := own_len (n := 0) (by decide) v1 A x3
  have LE : LArr s s.heap em [] := ⟨⟨cl, A, SZ, fun j hj => absurd hj (Nat.not_lt_zero _)⟩, EE⟩
  obtain ⟨n, o, h1, h2, h3, _, L, rfl, ⟨rfl, N⟩, hq⟩ := rm0 l s _ hw tables_1 i0 i1 i2 i3 i4 i5 em s.heap s.heap.size (Nat.le_refl _) SE LE p e ha hc hk s m _ below hf ((Spec.applies_iff_loose hf).mp happ).1 ⟨rfl, State.Warmed39.refl s, rfl⟩ trivial
  refine ⟨n, _, h1, h2, h3, hpost _ _ _ _ _ _ ⟨Cond.after_iff.mpr rfl, Cond.after_iff.mpr (eq_i res_at (Term.int_eval (1)) rfl), trivial⟩ ⟨hq.1, hq.2.1, (hq.2.2.sift fun y hy => Or.inr (N y hy)).mono (by decide) (by decide)⟩⟩
theorem main_1_1 : Claimed_1_1 := comes_1 fun _ _ _ _ _ _ h hF => ⟨h.1, hF⟩
theorem main_1_2 : Claimed_1_2 := comes_1 fun _ _ _ _ _ _ h hF => ⟨h.2.1, hF⟩
end Jvm.Pilot.@@N@@
namespace Jvm.Pilot.@@N@@
open Jvm Jvm.ClassFile Sem Op Lib Jvm.Free Jvm.Stand Jvm.Pilot.@@N@@.Jvm.D
/-! MADE BY PROGRAM (witnessworld.py) out of the Statement's table words and the real class files: 15 classes; the members and pool entries that the words name. The judged class is class 1, her method 1. -/
namespace start1
open Jvm.ClassFile
def u (s : String) : CpInfo := .utf8 (stringToUtf16 s)
/-- a pool by its gaps: so many unusable entries, then the entry; so many at the end -/
def gap : Nat → List CpInfo → List CpInfo
  | 0, r => r
  | n + 1, r => .unusable :: gap n r
def poolList (es : List (Nat × CpInfo)) (last : Nat) : List CpInfo := es.foldr (fun e r => gap e.1 (e.2 :: r)) (gap last [])
def pool (es : List (Nat × CpInfo)) (last : Nat) : Array CpInfo := ⟨poolList es last⟩
def fileOf (pool : Array CpInfo) (this : Nat) (attrs : Array Attribute := #[]) (ms : Array MethodInfo := #[]) (fl : Nat := 33) (sup : Nat := 0) (ifs : Array Nat := #[]) (fds : Array FieldInfo := #[]) : ClassFile where
  minorVersion := 0
  majorVersion := 65
  constantPool := pool
  accessFlags := fl
  thisClass := this
  superClass := sup
  interfaces := ifs
  fields := fds
  methods := ms
  attributes := attrs
def plain (name : String) (sup : Option ClassId) : Class where
  name := name
  kind := .ordinary
  loader := none
  accessFlags := 33
  super := sup
  interfaces := #[]
  cf := none
  fields := #[]
  methods := #[]
  instanceTypes := #[]
  staticTypes := #[]
  resolved := #[]
  callSites := []
  init := .initialized
  statics := none
  mirror := none

def pool0 : Array CpInfo := pool [(5, u "<init>"), (0, u "()V"), (1, .class_ 10), (1, u "java/lang/Object")] 113

def k0c0 : Code := { maxStack := 0, maxLocals := 1, code := object_method_1_code, exceptionTable := #[], attributes := #[] }
def k0m0 : Method := { name := "<init>", desc := "()V", sig := { parameters := [], returnType := none }, accessFlags := 1, code := some k0c0 }
/-- java/lang/Object -/
def k0 : Class := { plain "java/lang/Object" none with
  accessFlags := 33
  interfaces := #[]
  cf := some (fileOf pool0 8 #[] #[{ accessFlags := 1, nameIndex := 5, descriptorIndex := 6, attributes := #[] }] 33 0 #[] #[])
  fields := #[]
  methods := #[k0m0]
  instanceTypes := #[]
  staticTypes := #[]
  resolved := Array.replicate 124 none
  statics := none }

def pool1 : Array CpInfo := pool [(2, .class_ 4), (1, u "java/lang/Object"), (0, u "<init>"), (0, u "()V"), (0, .long 288230376151711743), (1, .class_ 10), (0, u "com/example/camf/camf/FingerprintStore"), (0, .long 128), (1, .methodref 9 14), (0, .nameAndType 5 15), (0, u "(J)V"), (0, .methodref 9 17), (0, .nameAndType 18 19), (0, u "add"), (0, u "(JJ)V"), (0, .methodref 21 22), (0, .class_ 23), (0, .nameAndType 24 25), (0, u "com/example/camf/camf/FingerprintStoreHeldMaskPinLaw"), (0, u "bit"), (0, u "(II)J"), (0, .methodref 9 27), (0, .nameAndType 28 29), (0, u "heldMask"), (0, u "(I)J"), (2, u "law"), (0, u "(JJJIII)Z")] 3

def k1m0 : Method := { name := "<init>", desc := "()V", sig := { parameters := [], returnType := none }, accessFlags := 1, code := none }
def k1c1 : Code := { maxStack := 5, maxLocals := 24, code := code, exceptionTable := #[], attributes := #[] }
def k1m1 : Method := { name := "law", desc := "(JJJIII)Z", sig := { parameters := [.long, .long, .long, .int, .int, .int], returnType := some .boolean }, accessFlags := 9, code := some k1c1 }
def k1c2 : Code := { maxStack := 4, maxLocals := 2, code := method_3_code, exceptionTable := #[], attributes := #[] }
def k1m2 : Method := { name := "bit", desc := "(II)J", sig := { parameters := [.int, .int], returnType := some .long }, accessFlags := 10, code := some k1c2 }
/-- com/example/camf/camf/FingerprintStoreHeldMaskPinLaw -/
def k1 : Class := { plain "com/example/camf/camf/FingerprintStoreHeldMaskPinLaw" (some 0) with
  accessFlags := 49
  interfaces := #[]
  cf := some (fileOf pool1 21 #[] #[{ accessFlags := 1, nameIndex := 5, descriptorIndex := 6, attributes := #[] }, { accessFlags := 9, nameIndex := 32, descriptorIndex := 33, attributes := #[] }, { accessFlags := 10, nameIndex := 24, descriptorIndex := 25, attributes := #[] }] 49 2 #[] #[])
  fields := #[]
  methods := #[k1m0, k1m1, k1m2]
  instanceTypes := #[]
  staticTypes := #[]
  resolved := Array.replicate 37 none
  statics := none }

def pool2 : Array CpInfo := pool [(1, .class_ 2), (0, u "com/example/camf/camf/FingerprintStore"), (2, .methodref 6 7), (0, .class_ 8), (0, .nameAndType 9 10), (0, u "java/lang/Object"), (0, u "<init>"), (0, u "()V"), (0, .fieldref 1 12), (0, .nameAndType 13 14), (0, u "size"), (0, u "J"), (0, .class_ 16), (0, u "[J"), (0, .fieldref 1 18), (0, .nameAndType 19 20), (0, u "blocks"), (0, u "[[J"), (0, .fieldref 1 22), (0, .nameAndType 23 16), (0, u "EMPTY"), (0, .methodref 25 26), (0, .class_ 27), (0, .nameAndType 28 29), (0, u "java/util/Arrays"), (0, u "fill"), (0, u "([Ljava/lang/Object;Ljava/lang/Object;)V"), (2, u "(J)V"), (3, u "(J)I"), (7, u "(JJ)J"), (19, .methodref 1 65), (0, .nameAndType 66 36), (0, u "blockOf"), (2, .methodref 25 70), (0, .nameAndType 71 72), (0, u "copyOf"), (0, u "([JI)[J"), (0, .methodref 1 74), (0, .nameAndType 75 44), (0, u "entryOf"), (0, .long 63), (28, u "BLOCK_BITS"), (0, u "I"), (2, u "MIN_SIZE"), (2, u "PLACE_MASK"), (0, u "FINGERPRINT_BITS"), (1, u "READ_CHUNK"), (12, u "heldMask"), (0, u "(I)J"), (6, u "add"), (0, u "(JJ)V")] 25

def k2c0 : Code := { maxStack := 4, maxLocals := 3, code := prog_13_method_1_code, exceptionTable := #[], attributes := #[] }
def k2m0 : Method := { name := "<init>", desc := "(J)V", sig := { parameters := [.long], returnType := none }, accessFlags := 0, code := some k2c0 }
def k2c1 : Code := { maxStack := 6, maxLocals := 9, code := prog_13_method_5_code, exceptionTable := #[], attributes := #[] }
def k2m1 : Method := { name := "heldMask", desc := "(I)J", sig := { parameters := [.int], returnType := some .long }, accessFlags := 0, code := some k2c1 }
def k2c2 : Code := { maxStack := 6, maxLocals := 7, code := prog_13_method_10_code, exceptionTable := #[], attributes := #[] }
def k2m2 : Method := { name := "add", desc := "(JJ)V", sig := { parameters := [.long, .long], returnType := none }, accessFlags := 0, code := some k2c2 }
def k2c3 : Code := { maxStack := 3, maxLocals := 2, code := prog_13_method_16_code, exceptionTable := #[], attributes := #[] }
def k2m3 : Method := { name := "blockOf", desc := "(J)I", sig := { parameters := [.long], returnType := some .int }, accessFlags := 10, code := some k2c3 }
def k2c4 : Code := { maxStack := 6, maxLocals := 4, code := prog_13_method_18_code, exceptionTable := #[], attributes := #[] }
def k2m4 : Method := { name := "entryOf", desc := "(JJ)J", sig := { parameters := [.long, .long], returnType := some .long }, accessFlags := 10, code := some k2c4 }
/-- com/example/camf/camf/FingerprintStore -/
def k2 : Class := { plain "com/example/camf/camf/FingerprintStore" (some 0) with
  accessFlags := 48
  interfaces := #[]
  cf := some (fileOf pool2 1 #[] #[{ accessFlags := 0, nameIndex := 9, descriptorIndex := 32, attributes := #[] }, { accessFlags := 0, nameIndex := 128, descriptorIndex := 129, attributes := #[] }, { accessFlags := 0, nameIndex := 136, descriptorIndex := 137, attributes := #[] }, { accessFlags := 10, nameIndex := 66, descriptorIndex := 36, attributes := #[] }, { accessFlags := 10, nameIndex := 75, descriptorIndex := 44, attributes := #[] }] 48 6 #[] #[{ accessFlags := 26, nameIndex := 105, descriptorIndex := 106, attributes := #[] }, { accessFlags := 24, nameIndex := 109, descriptorIndex := 14, attributes := #[] }, { accessFlags := 26, nameIndex := 112, descriptorIndex := 14, attributes := #[] }, { accessFlags := 26, nameIndex := 113, descriptorIndex := 106, attributes := #[] }, { accessFlags := 26, nameIndex := 23, descriptorIndex := 16, attributes := #[] }, { accessFlags := 26, nameIndex := 115, descriptorIndex := 106, attributes := #[] }, { accessFlags := 18, nameIndex := 13, descriptorIndex := 14, attributes := #[] }, { accessFlags := 18, nameIndex := 19, descriptorIndex := 20, attributes := #[] }])
  fields := #[{ name := "BLOCK_BITS", type := .int, accessFlags := 26, slot := 0, constantValue := 0 }, { name := "MIN_SIZE", type := .long, accessFlags := 24, slot := 1, constantValue := 0 }, { name := "PLACE_MASK", type := .long, accessFlags := 26, slot := 2, constantValue := 0 }, { name := "FINGERPRINT_BITS", type := .int, accessFlags := 26, slot := 3, constantValue := 0 }, { name := "EMPTY", type := (.array .long), accessFlags := 26, slot := 4, constantValue := 0 }, { name := "READ_CHUNK", type := .int, accessFlags := 26, slot := 5, constantValue := 0 }, { name := "size", type := .long, accessFlags := 18, slot := 0, constantValue := 0 }, { name := "blocks", type := (.array (.array .long)), accessFlags := 18, slot := 1, constantValue := 0 }]
  methods := #[k2m0, k2m1, k2m2, k2m3, k2m4]
  instanceTypes := #[.long, (.array (.array .long))]
  staticTypes := #[.int, .long, .long, .int, (.array .long), .int]
  resolved := Array.replicate 163 none
  statics := some 0 }

def pool3 : Array CpInfo := pool [(2, .class_ 4), (1, u "java/lang/Object"), (0, u "<init>"), (0, u "()V"), (7, .class_ 16), (1, u "java/util/Arrays"), (57, .class_ 76), (1, u "java/util/Arrays$NaturalOrder"), (36, .class_ 115), (1, u "java/util/Arrays$LegacyMergeSort"), (1, u "Z"), (32, .methodref 151 152), (0, .class_ 153), (0, .nameAndType 154 155), (0, u "java/lang/System"), (0, u "arraycopy"), (0, u "(Ljava/lang/Object;ILjava/lang/Object;II)V"), (146, u "copyOf"), (1, .methodref 305 306), (0, .class_ 307), (0, .nameAndType 308 309), (0, u "java/lang/Math"), (0, u "min"), (0, u "(II)I"), (65, .class_ 376), (0, u "java/util/Arrays$ArrayList"), (68, u "$assertionsDisabled"), (269, u "MIN_ARRAY_SORT_GRAN"), (0, u "I"), (2, u "INSERTIONSORT_THRESHOLD"), (120, u "fill"), (17, u "([Ljava/lang/Object;Ljava/lang/Object;)V"), (13, u "([JI)[J"), (102, .class_ 976), (0, u "java/util/Arrays$ArrayItr")] 52

def k3m0 : Method := { name := "<init>", desc := "()V", sig := { parameters := [], returnType := none }, accessFlags := 2, code := none }
def k3c1 : Code := { maxStack := 3, maxLocals := 4, code := jdk_65_method_117_code, exceptionTable := #[], attributes := #[] }
def k3m1 : Method := { name := "fill", desc := "([Ljava/lang/Object;Ljava/lang/Object;)V", sig := { parameters := [(.array (.object "java/lang/Object")), (.object "java/lang/Object")], returnType := none }, accessFlags := 9, code := some k3c1 }
def k3c2 : Code := { maxStack := 6, maxLocals := 3, code := jdk_65_method_124_code, exceptionTable := #[], attributes := #[] }
def k3m2 : Method := { name := "copyOf", desc := "([JI)[J", sig := { parameters := [(.array .long), .int], returnType := some (.array .long) }, accessFlags := 9, code := some k3c2 }
/-- java/util/Arrays -/
def k3 : Class := { plain "java/util/Arrays" (some 0) with
  accessFlags := 49
  interfaces := #[]
  cf := some (fileOf pool3 14 #[.nestMembers #[975, 375, 113, 74]] #[{ accessFlags := 2, nameIndex := 5, descriptorIndex := 6, attributes := #[] }, { accessFlags := 9, nameIndex := 840, descriptorIndex := 858, attributes := #[] }, { accessFlags := 9, nameIndex := 302, descriptorIndex := 872, attributes := #[] }] 49 2 #[] #[{ accessFlags := 26, nameIndex := 715, descriptorIndex := 716, attributes := #[] }, { accessFlags := 26, nameIndex := 719, descriptorIndex := 716, attributes := #[] }, { accessFlags := 4120, nameIndex := 445, descriptorIndex := 117, attributes := #[] }])
  fields := #[{ name := "MIN_ARRAY_SORT_GRAN", type := .int, accessFlags := 26, slot := 0, constantValue := 0 }, { name := "INSERTIONSORT_THRESHOLD", type := .int, accessFlags := 26, slot := 1, constantValue := 0 }, { name := "$assertionsDisabled", type := .boolean, accessFlags := 4120, slot := 2, constantValue := 0 }]
  methods := #[k3m0, k3m1, k3m2]
  instanceTypes := #[]
  staticTypes := #[.int, .int, .boolean]
  resolved := Array.replicate 1029 none
  statics := none }

def pool4 : Array CpInfo := pool [(1, .class_ 2), (0, u "java/lang/Math"), (1, .class_ 6), (1, u "java/lang/Object"), (0, u "<init>"), (0, u "()V"), (89, .class_ 100), (1, u "java/lang/Math$RandomNumberGeneratorHolder"), (71, u "negativeZeroFloatBits"), (0, u "J"), (2, u "negativeZeroDoubleBits"), (24, u "min"), (43, u "$assertionsDisabled"), (0, u "Z"), (88, u "(II)I"), (2, u "twoToTheDoubleScaleDown"), (0, u "D"), (4, u "twoToTheDoubleScaleUp"), (9, u "E"), (3, u "PI"), (2, u "TAU"), (2, u "DEGREES_TO_RADIANS"), (0, u "RADIANS_TO_DEGREES")] 94

def k4m0 : Method := { name := "<init>", desc := "()V", sig := { parameters := [], returnType := none }, accessFlags := 2, code := none }
def k4c1 : Code := { maxStack := 2, maxLocals := 2, code := jdk_29_method_69_code, exceptionTable := #[], attributes := #[] }
def k4m1 : Method := { name := "min", desc := "(II)I", sig := { parameters := [.int, .int], returnType := some .int }, accessFlags := 9, code := some k4c1 }
/-- java/lang/Math -/
def k4 : Class := { plain "java/lang/Math" (some 0) with
  accessFlags := 49
  interfaces := #[]
  cf := some (fileOf pool4 1 #[.nestMembers #[98]] #[{ accessFlags := 2, nameIndex := 7, descriptorIndex := 8, attributes := #[] }, { accessFlags := 9, nameIndex := 201, descriptorIndex := 335, attributes := #[] }] 49 4 #[] #[{ accessFlags := 25, nameIndex := 354, descriptorIndex := 339, attributes := #[] }, { accessFlags := 25, nameIndex := 358, descriptorIndex := 339, attributes := #[] }, { accessFlags := 25, nameIndex := 361, descriptorIndex := 339, attributes := #[] }, { accessFlags := 26, nameIndex := 364, descriptorIndex := 339, attributes := #[] }, { accessFlags := 26, nameIndex := 365, descriptorIndex := 339, attributes := #[] }, { accessFlags := 26, nameIndex := 172, descriptorIndex := 173, attributes := #[] }, { accessFlags := 26, nameIndex := 176, descriptorIndex := 173, attributes := #[] }, { accessFlags := 8, nameIndex := 344, descriptorIndex := 339, attributes := #[] }, { accessFlags := 8, nameIndex := 338, descriptorIndex := 339, attributes := #[] }, { accessFlags := 4120, nameIndex := 245, descriptorIndex := 246, attributes := #[] }])
  fields := #[{ name := "E", type := .double, accessFlags := 25, slot := 0, constantValue := 0 }, { name := "PI", type := .double, accessFlags := 25, slot := 1, constantValue := 0 }, { name := "TAU", type := .double, accessFlags := 25, slot := 2, constantValue := 0 }, { name := "DEGREES_TO_RADIANS", type := .double, accessFlags := 26, slot := 3, constantValue := 0 }, { name := "RADIANS_TO_DEGREES", type := .double, accessFlags := 26, slot := 4, constantValue := 0 }, { name := "negativeZeroFloatBits", type := .long, accessFlags := 26, slot := 5, constantValue := 0 }, { name := "negativeZeroDoubleBits", type := .long, accessFlags := 26, slot := 6, constantValue := 0 }, { name := "twoToTheDoubleScaleUp", type := .double, accessFlags := 8, slot := 7, constantValue := 0 }, { name := "twoToTheDoubleScaleDown", type := .double, accessFlags := 8, slot := 8, constantValue := 0 }, { name := "$assertionsDisabled", type := .boolean, accessFlags := 4120, slot := 9, constantValue := 0 }]
  methods := #[k4m0, k4m1]
  instanceTypes := #[]
  staticTypes := #[.double, .double, .double, .double, .double, .long, .long, .double, .double, .boolean]
  resolved := Array.replicate 460 none
  statics := none }

def pool5 : Array CpInfo := pool [(2, .class_ 4), (1, u "java/lang/Object"), (0, u "<init>"), (0, u "()V"), (1, .class_ 10), (1, u "java/lang/System"), (0, u "allowSecurityManager"), (0, u "I"), (16, u "cons"), (0, u "Ljava/io/Console;"), (77, .class_ 110), (1, u "java/lang/System$CallersHolder"), (43, u "initialErrStream"), (0, u "Ljava/io/PrintStream;"), (19, u "security"), (0, u "Ljava/lang/SecurityManager;"), (31, .class_ 209), (0, u "java/lang/System$1"), (7, u "props"), (0, u "Ljava/util/Properties;"), (2, u "lineSeparator"), (0, u "Ljava/lang/String;"), (96, .class_ 321), (1, u "java/lang/System$LoggerFinder"), (5, .class_ 328), (0, u "java/lang/System$Logger"), (67, u "err"), (2, u "out"), (91, u "notSupportedJnuEncoding"), (15, u "in"), (17, u "initialIn"), (0, u "Ljava/io/InputStream;"), (35, u "bootLayer"), (0, u "Ljava/lang/ModuleLayer;"), (99, .class_ 664), (0, u "java/lang/System$2"), (9, u "NEVER"), (2, u "MAYBE"), (49, u "arraycopy"), (0, u "(Ljava/lang/Object;ILjava/lang/Object;II)V"), (72, .class_ 802), (0, u "java/lang/System$Logger$Level")] 31

def k5m0 : Method := { name := "<init>", desc := "()V", sig := { parameters := [], returnType := none }, accessFlags := 2, code := none }
def k5m1 : Method := { name := "arraycopy", desc := "(Ljava/lang/Object;ILjava/lang/Object;II)V", sig := { parameters := [(.object "java/lang/Object"), .int, (.object "java/lang/Object"), .int, .int], returnType := none }, accessFlags := 265, code := none }
/-- java/lang/System -/
def k5 : Class := { plain "java/lang/System" (some 0) with
  accessFlags := 49
  interfaces := #[]
  cf := some (fileOf pool5 8 #[.nestMembers #[319, 327, 801, 108, 663, 208]] #[{ accessFlags := 2, nameIndex := 5, descriptorIndex := 6, attributes := #[] }, { accessFlags := 265, nameIndex := 727, descriptorIndex := 728, attributes := #[] }] 49 2 #[] #[{ accessFlags := 25, nameIndex := 507, descriptorIndex := 526, attributes := #[] }, { accessFlags := 25, nameIndex := 399, descriptorIndex := 155, attributes := #[] }, { accessFlags := 25, nameIndex := 396, descriptorIndex := 155, attributes := #[] }, { accessFlags := 10, nameIndex := 525, descriptorIndex := 526, attributes := #[] }, { accessFlags := 26, nameIndex := 674, descriptorIndex := 12, attributes := #[] }, { accessFlags := 26, nameIndex := 677, descriptorIndex := 12, attributes := #[] }, { accessFlags := 10, nameIndex := 11, descriptorIndex := 12, attributes := #[] }, { accessFlags := 74, nameIndex := 175, descriptorIndex := 176, attributes := #[] }, { accessFlags := 10, nameIndex := 491, descriptorIndex := 222, attributes := #[] }, { accessFlags := 74, nameIndex := 29, descriptorIndex := 30, attributes := #[] }, { accessFlags := 74, nameIndex := 154, descriptorIndex := 155, attributes := #[] }, { accessFlags := 10, nameIndex := 217, descriptorIndex := 218, attributes := #[] }, { accessFlags := 10, nameIndex := 221, descriptorIndex := 222, attributes := #[] }, { accessFlags := 8, nameIndex := 562, descriptorIndex := 563, attributes := #[] }])
  fields := #[{ name := "in", type := (.object "java/io/InputStream"), accessFlags := 25, slot := 0, constantValue := 0 }, { name := "out", type := (.object "java/io/PrintStream"), accessFlags := 25, slot := 1, constantValue := 0 }, { name := "err", type := (.object "java/io/PrintStream"), accessFlags := 25, slot := 2, constantValue := 0 }, { name := "initialIn", type := (.object "java/io/InputStream"), accessFlags := 10, slot := 3, constantValue := 0 }, { name := "NEVER", type := .int, accessFlags := 26, slot := 4, constantValue := 0 }, { name := "MAYBE", type := .int, accessFlags := 26, slot := 5, constantValue := 0 }, { name := "allowSecurityManager", type := .int, accessFlags := 10, slot := 6, constantValue := 0 }, { name := "security", type := (.object "java/lang/SecurityManager"), accessFlags := 74, slot := 7, constantValue := 0 }, { name := "notSupportedJnuEncoding", type := (.object "java/lang/String"), accessFlags := 10, slot := 8, constantValue := 0 }, { name := "cons", type := (.object "java/io/Console"), accessFlags := 74, slot := 9, constantValue := 0 }, { name := "initialErrStream", type := (.object "java/io/PrintStream"), accessFlags := 74, slot := 10, constantValue := 0 }, { name := "props", type := (.object "java/util/Properties"), accessFlags := 10, slot := 11, constantValue := 0 }, { name := "lineSeparator", type := (.object "java/lang/String"), accessFlags := 10, slot := 12, constantValue := 0 }, { name := "bootLayer", type := (.object "java/lang/ModuleLayer"), accessFlags := 8, slot := 13, constantValue := 0 }]
  methods := #[k5m0, k5m1]
  instanceTypes := #[]
  staticTypes := #[(.object "java/io/InputStream"), (.object "java/io/PrintStream"), (.object "java/io/PrintStream"), (.object "java/io/InputStream"), .int, .int, .int, (.object "java/lang/SecurityManager"), (.object "java/lang/String"), (.object "java/io/Console"), (.object "java/io/PrintStream"), (.object "java/util/Properties"), (.object "java/lang/String"), (.object "java/lang/ModuleLayer")]
  resolved := Array.replicate 834 none
  statics := none }

def pool6 : Array CpInfo := pool [(1, u "java/lang/Cloneable"), (0, .class_ 1), (0, u "java/lang/Object"), (0, .class_ 3)] 3

/-- java/lang/Cloneable -/
def k6 : Class := { plain "java/lang/Cloneable" (some 0) with
  accessFlags := 1537
  interfaces := #[]
  cf := some (fileOf pool6 2 #[] #[] 1537 4 #[] #[])
  fields := #[]
  methods := #[]
  instanceTypes := #[]
  staticTypes := #[]
  resolved := Array.replicate 8 none
  statics := none }

def pool7 : Array CpInfo := pool [(1, u "java/io/Serializable"), (0, .class_ 1), (0, u "java/lang/Object"), (0, .class_ 3)] 3

/-- java/io/Serializable -/
def k7 : Class := { plain "java/io/Serializable" (some 0) with
  accessFlags := 1537
  interfaces := #[]
  cf := some (fileOf pool7 2 #[] #[] 1537 4 #[] #[])
  fields := #[]
  methods := #[]
  instanceTypes := #[]
  staticTypes := #[]
  resolved := Array.replicate 8 none
  statics := none }

/-- the primitive byte -/
def k8 : Class := { plain "byte" none with kind := .primitive 'B', accessFlags := 0x411 }
/-- [B -/
def k9 : Class := { plain "[B" (some 0) with kind := .array 8 .byte, interfaces := #[6, 7], accessFlags := 1041 }

/-- the primitive int -/
def k10 : Class := { plain "int" none with kind := .primitive 'I', accessFlags := 0x411 }
/-- [I -/
def k11 : Class := { plain "[I" (some 0) with kind := .array 10 .int, interfaces := #[6, 7], accessFlags := 1041 }

/-- the primitive long -/
def k12 : Class := { plain "long" none with kind := .primitive 'J', accessFlags := 0x411 }
/-- [J -/
def k13 : Class := { plain "[J" (some 0) with kind := .array 12 .long, interfaces := #[6, 7], accessFlags := 1041 }

/-- [L[J; -/
def k14 : Class := { plain "[[J" (some 0) with kind := .array 13 (.array .long), interfaces := #[6, 7], accessFlags := 1041 }

def heap : Heap := #[{ cls := 2, slots := #[.int 0, .long 0, .long 0, .int 0, .ref 2, .int 0], vm := .statics 2 },
  { cls := 14, slots := #[], vm := .none },
  { cls := 13, slots := #[], vm := .none }]
def classes : Array Class := #[k0, k1, k2, k3, k4, k5, k6, k7, k8, k9, k10, k11, k12, k13, k14]
def interned : List (Array UInt16 × Addr) := []
def slotsUsed : Nat := 6
def theMethod : MethodId := ⟨1, 1⟩
def args0 : Array Value := #[.long 5, .long 7, .long 9, .int 1, .int 2, .int 3]
def aboutOver (below : List Frame) : State where
  vm := { classes := classes, interned := interned.toArray }
  heap := heap
  slotsUsed := slotsUsed
  threads := #[{ frames := .invoking theMethod args0 :: below }]
def below0 : List Frame := [.native { method := ⟨0, 0⟩, args := #[] }]
def about1 : State := aboutOver below0
def p0 : Program := .bare "" "" ""
def e0 : Env := launch0.env 0 0 0
theorem w_frames : about1.frames = Frame.invoking theMethod args0 :: below0 := rfl
set_option maxRecDepth 65536 in
theorem w_args : argsFit about1.vm theMethod args0 = true := by decide +kernel
set_option maxRecDepth 65536 in
theorem w_heap : heapFits about1 = true := by decide +kernel
set_option maxRecDepth 65536 in
theorem w_runnable : about1.curStatus? = some .runnable := by decide +kernel
set_option maxRecDepth 65536 in
theorem w_alone : about1.alone = true := by decide +kernel
set_option maxRecDepth 65536 in
theorem w_named : about1.methodNamed? x = some theMethod := by decide +kernel
set_option maxRecDepth 65536 in
theorem w_hears : about1.hears theMethod below0 = true := by decide +kernel
set_option maxRecDepth 65536 in
theorem w_ripe : about1.ripe theMethod args0 below0 = true := by decide +kernel
theorem w_running : about1.status = .running := rfl
set_option maxRecDepth 65536 in
theorem w_room : about1.hasRoom e0.platform room_1 = true :=
  launch0.hasRoom_least _ room_1 (by decide +kernel) (by decide +kernel) (by decide +kernel) (by decide +kernel) (by decide +kernel) (by decide +kernel)
theorem allAtoms_all (ts : List Jvm.Cond) (a : Array Jvm.Value) (st : Jvm.State) : (allAtoms ts).before a st = ts.all (fun c => c.before a st) := by
  induction ts with
  | nil => rfl
  | cons c t ih =>
    show (Jvm.Cond.and c (allAtoms t)).before a st = _
    rw [Jvm.Cond.before_and, ih, List.all_cons]
def words1 : List Jvm.Cond := Jvm.Cond.code x code maxLocals ret :: tables_1
/-- a 'code' word, met by the world's own term for the bytes: nothing is compared byte by byte -/
theorem code_word {y : MethodName} {bytes : ByteArray} {mx : Nat} {rt : Option FieldType} {a : Array Value} {s : State} {m : MethodId} {meth : Method} {c : Code} (h1 : s.methodNamed? y = some m) (h2 : s.vm.method? m = some meth) (h3 : meth.code = some c) (h4 : c.code = bytes)
    (h5 : (c.maxLocals == mx && c.exceptionTable.isEmpty && decide (c.maxStack ≤ mostOperands) && decide (meth.sig.returnType = rt) && !meth.locks && decide (parseMethodDescriptor y.desc = some meth.sig)) = true) : (Jvm.Cond.code y bytes mx rt).before a s = true := by
  simp only [Bool.and_eq_true, beq_iff_eq, Bool.not_eq_true', decide_eq_true_eq] at h5
  obtain ⟨⟨⟨⟨⟨g1, g2⟩, g3⟩, g4⟩, g5⟩, g6⟩ := h5
  simp [Cond.before, Cond.holds, Cond.value, h1, h2, h3, h4, g1, g2, g3, g4, g5, g6]
def isCode : Jvm.Cond → Bool
  | .code _ _ _ _ => true
  | _ => false
theorem all_split {L : List Jvm.Cond} {P : Jvm.Cond → Bool} (h1 : L.all (fun c => isCode c || P c) = true) (h2 : ∀ c ∈ L.filter isCode, P c = true) : L.all P = true := by
  refine List.all_eq_true.mpr fun c hc => ?_
  have h := List.all_eq_true.mp h1 c hc
  rcases Bool.eq_false_or_eq_true (isCode c) with hi | hi
  · exact h2 c (List.mem_filter.mpr ⟨hc, hi⟩)
  · simpa [hi] using h
set_option maxRecDepth 65536 in
theorem w_c0 : (Jvm.Cond.code x code maxLocals ret).before args0 about1 = true := code_word (m := ⟨1, 1⟩) (meth := k1m1) (c := k1c1) (by decide +kernel) rfl rfl rfl (by decide +kernel)
set_option maxRecDepth 65536 in
theorem w_c1 : (Jvm.Cond.code ({ cls := "com/example/camf/camf/FingerprintStore", name := "<init>", desc := "(J)V" } : Jvm.MethodName) prog_13_method_1_code (3 : Nat) (Option.none : Option Jvm.ClassFile.FieldType)).before args0 about1 = true := code_word (m := ⟨2, 0⟩) (meth := k2m0) (c := k2c0) (by decide +kernel) rfl rfl rfl (by decide +kernel)
set_option maxRecDepth 65536 in
theorem w_c2 : (Jvm.Cond.code ({ cls := "java/lang/Object", name := "<init>", desc := "()V" } : Jvm.MethodName) object_method_1_code (1 : Nat) (Option.none : Option Jvm.ClassFile.FieldType)).before args0 about1 = true := code_word (m := ⟨0, 0⟩) (meth := k0m0) (c := k0c0) (by decide +kernel) rfl rfl rfl (by decide +kernel)
set_option maxRecDepth 65536 in
theorem w_c3 : (Jvm.Cond.code ({ cls := "java/util/Arrays", name := "fill", desc := "([Ljava/lang/Object;Ljava/lang/Object;)V" } : Jvm.MethodName) jdk_65_method_117_code (4 : Nat) (Option.none : Option Jvm.ClassFile.FieldType)).before args0 about1 = true := code_word (m := ⟨3, 1⟩) (meth := k3m1) (c := k3c1) (by decide +kernel) rfl rfl rfl (by decide +kernel)
set_option maxRecDepth 65536 in
theorem w_c4 : (Jvm.Cond.code ({ cls := "com/example/camf/camf/FingerprintStore", name := "heldMask", desc := "(I)J" } : Jvm.MethodName) prog_13_method_5_code (9 : Nat) (Option.some Jvm.ClassFile.FieldType.long)).before args0 about1 = true := code_word (m := ⟨2, 1⟩) (meth := k2m1) (c := k2c1) (by decide +kernel) rfl rfl rfl (by decide +kernel)
set_option maxRecDepth 65536 in
theorem w_c5 : (Jvm.Cond.code ({ cls := "com/example/camf/camf/FingerprintStore", name := "add", desc := "(JJ)V" } : Jvm.MethodName) prog_13_method_10_code (7 : Nat) (Option.none : Option Jvm.ClassFile.FieldType)).before args0 about1 = true := code_word (m := ⟨2, 2⟩) (meth := k2m2) (c := k2c2) (by decide +kernel) rfl rfl rfl (by decide +kernel)
set_option maxRecDepth 65536 in
theorem w_c6 : (Jvm.Cond.code ({ cls := "com/example/camf/camf/FingerprintStore", name := "blockOf", desc := "(J)I" } : Jvm.MethodName) prog_13_method_16_code (2 : Nat) (Option.some Jvm.ClassFile.FieldType.int)).before args0 about1 = true := code_word (m := ⟨2, 3⟩) (meth := k2m3) (c := k2c3) (by decide +kernel) rfl rfl rfl (by decide +kernel)
set_option maxRecDepth 65536 in
theorem w_c7 : (Jvm.Cond.code ({ cls := "java/util/Arrays", name := "copyOf", desc := "([JI)[J" } : Jvm.MethodName) jdk_65_method_124_code (3 : Nat) (Option.some (Jvm.ClassFile.FieldType.array Jvm.ClassFile.FieldType.long))).before args0 about1 = true := code_word (m := ⟨3, 2⟩) (meth := k3m2) (c := k3c2) (by decide +kernel) rfl rfl rfl (by decide +kernel)
set_option maxRecDepth 65536 in
theorem w_c8 : (Jvm.Cond.code ({ cls := "java/lang/Math", name := "min", desc := "(II)I" } : Jvm.MethodName) jdk_29_method_69_code (2 : Nat) (Option.some Jvm.ClassFile.FieldType.int)).before args0 about1 = true := code_word (m := ⟨4, 1⟩) (meth := k4m1) (c := k4c1) (by decide +kernel) rfl rfl rfl (by decide +kernel)
set_option maxRecDepth 65536 in
theorem w_c9 : (Jvm.Cond.code ({ cls := "com/example/camf/camf/FingerprintStore", name := "entryOf", desc := "(JJ)J" } : Jvm.MethodName) prog_13_method_18_code (4 : Nat) (Option.some Jvm.ClassFile.FieldType.long)).before args0 about1 = true := code_word (m := ⟨2, 4⟩) (meth := k2m4) (c := k2c4) (by decide +kernel) rfl rfl rfl (by decide +kernel)
set_option maxRecDepth 65536 in
theorem w_c10 : (Jvm.Cond.code ({ cls := "com/example/camf/camf/FingerprintStoreHeldMaskPinLaw", name := "bit", desc := "(II)J" } : Jvm.MethodName) method_3_code (2 : Nat) (Option.some Jvm.ClassFile.FieldType.long)).before args0 about1 = true := code_word (m := ⟨1, 2⟩) (meth := k1m2) (c := k1c2) (by decide +kernel) rfl rfl rfl (by decide +kernel)
def codes1 : List Jvm.Cond := [Jvm.Cond.code x code maxLocals ret, Jvm.Cond.code ({ cls := "com/example/camf/camf/FingerprintStore", name := "<init>", desc := "(J)V" } : Jvm.MethodName) prog_13_method_1_code (3 : Nat) (Option.none : Option Jvm.ClassFile.FieldType), Jvm.Cond.code ({ cls := "java/lang/Object", name := "<init>", desc := "()V" } : Jvm.MethodName) object_method_1_code (1 : Nat) (Option.none : Option Jvm.ClassFile.FieldType), Jvm.Cond.code ({ cls := "java/util/Arrays", name := "fill", desc := "([Ljava/lang/Object;Ljava/lang/Object;)V" } : Jvm.MethodName) jdk_65_method_117_code (4 : Nat) (Option.none : Option Jvm.ClassFile.FieldType), Jvm.Cond.code ({ cls := "com/example/camf/camf/FingerprintStore", name := "heldMask", desc := "(I)J" } : Jvm.MethodName) prog_13_method_5_code (9 : Nat) (Option.some Jvm.ClassFile.FieldType.long), Jvm.Cond.code ({ cls := "com/example/camf/camf/FingerprintStore", name := "add", desc := "(JJ)V" } : Jvm.MethodName) prog_13_method_10_code (7 : Nat) (Option.none : Option Jvm.ClassFile.FieldType), Jvm.Cond.code ({ cls := "com/example/camf/camf/FingerprintStore", name := "blockOf", desc := "(J)I" } : Jvm.MethodName) prog_13_method_16_code (2 : Nat) (Option.some Jvm.ClassFile.FieldType.int), Jvm.Cond.code ({ cls := "java/util/Arrays", name := "copyOf", desc := "([JI)[J" } : Jvm.MethodName) jdk_65_method_124_code (3 : Nat) (Option.some (Jvm.ClassFile.FieldType.array Jvm.ClassFile.FieldType.long)), Jvm.Cond.code ({ cls := "java/lang/Math", name := "min", desc := "(II)I" } : Jvm.MethodName) jdk_29_method_69_code (2 : Nat) (Option.some Jvm.ClassFile.FieldType.int), Jvm.Cond.code ({ cls := "com/example/camf/camf/FingerprintStore", name := "entryOf", desc := "(JJ)J" } : Jvm.MethodName) prog_13_method_18_code (4 : Nat) (Option.some Jvm.ClassFile.FieldType.long), Jvm.Cond.code ({ cls := "com/example/camf/camf/FingerprintStoreHeldMaskPinLaw", name := "bit", desc := "(II)J" } : Jvm.MethodName) method_3_code (2 : Nat) (Option.some Jvm.ClassFile.FieldType.long)]
set_option maxRecDepth 65536 in
theorem codes_eq : words1.filter isCode = codes1 := rfl
theorem w_codes : ∀ c ∈ words1.filter isCode, c.before args0 about1 = true := by
  rw [codes_eq]
  intro c hc
  simp only [codes1, List.mem_cons, List.not_mem_nil, or_false] at hc
  rcases hc with rfl | rfl | rfl | rfl | rfl | rfl | rfl | rfl | rfl | rfl | rfl
  · exact w_c0
  · exact w_c1
  · exact w_c2
  · exact w_c3
  · exact w_c4
  · exact w_c5
  · exact w_c6
  · exact w_c7
  · exact w_c8
  · exact w_c9
  · exact w_c10
set_option maxRecDepth 65536 in
theorem w_t1 : (words1.take 24).all (fun c => isCode c || c.before args0 about1) = true := by decide +kernel
set_option maxRecDepth 65536 in
theorem w_t2 : ((words1.drop 24).take 24).all (fun c => isCode c || c.before args0 about1) = true := by decide +kernel
set_option maxRecDepth 65536 in
theorem w_t3 : ((words1.drop 24).drop 24).all (fun c => isCode c || c.before args0 about1) = true := by decide +kernel
theorem w_tables : (allAtoms (Jvm.Cond.code x code maxLocals ret :: tables_1)).before args0 about1 = true := by
  rw [allAtoms_all]
  show words1.all (fun c => c.before args0 about1) = true
  refine all_split ?_ w_codes
  rw [← List.take_append_drop 24 words1, List.all_append, w_t1, ← List.take_append_drop 24 (words1.drop 24), List.all_append, w_t2, w_t3]
  rfl
set_option maxRecDepth 65536 in
theorem w_case : (Jvm.Cond.and given_1 narrow_1).before args0 about1 = true := by decide +kernel
theorem w_applies : (headSpec (Jvm.Cond.code x code maxLocals ret :: tables_1) room_1).applies x e0.platform about1 = true :=
  (Spec.applies_iff w_frames).mpr ⟨w_running, w_runnable, w_alone, w_named, w_hears, w_ripe, w_room, w_tables⟩
theorem atStart : AtStart classFile x code maxLocals ret World_1 tables_1 room_1 Calls_1 rest_1 Pre_1 launch0 p0 e0 about1 theMethod args0 below0 :=
  ⟨lists_1, trivial, launch0.admits_env _ _ _, launch0.least_env, fairChoices_fair.cas, fairChoices_fair.clock, w_frames, w_args, w_heap, w_applies, trivial, trivial, w_case⟩
end start1
theorem witness_1 : WitnessClaimed_1 := ⟨start1.p0, start1.e0, start1.about1, start1.theMethod, start1.args0, start1.below0, start1.atStart⟩
end Jvm.Pilot.@@N@@
