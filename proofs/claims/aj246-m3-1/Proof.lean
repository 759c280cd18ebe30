import JvmDerived
import JvmDerived.Pilot.@@N@@Statement
import JvmDerived.Pilot.@@N@@Code
set_option linter.unusedVariables false
set_option linter.unusedSimpArgs false
namespace Jvm.OwnW
open Sem ClassFile Op Lib Jvm.Stand Jvm.Free Jvm.LawKit Jvm.RoadKit
/-- what is left to be shown of a walk that stands at S: it comes back, Q holds, the frame holds -/
def Wp (p : Program) (e : Env) (s : State) (below : List Frame) (Q : Option Value → Heap → List Loc → Prop) (kc ks : Nat) (S : State) : Prop :=
  ∃ s₂ o, Steps p.tables e below S s₂ ∧ s₂.status = .running ∧ Ended s₂ below o ∧ ∃ v L, o = .returned v ∧ Q v s₂.heap L ∧ FrameEnd s o s₂ L kc ks
/-- a method's contract at given arguments and a given heap -/
def Con (l : Launch) (Z : State) (y : MethodName) (bytes : ByteArray) (maxL : Nat) (ret : Option FieldType) (ws : List Jvm.Cond) (rm : Room) (as' : Array Value) (h0 : Heap) (Q : Option Value → Heap → List Loc → Prop) : Prop :=
  MetFree l y (head1 (Jvm.Cond.code y bytes maxL ret :: ws) rm) (fun a U => a = as' ∧ Z.Warmed39 U.vm ∧ U.heap = h0) (fun _ _ _ _ _ => True) (fun _ U o U' => ∃ v L, o = .returned v ∧ Q v U'.heap L ∧ FrameEnd U o U' L rm.cells rm.slots)
/-- an array: its kind, length, and what each place holds -/
def IArr (Z : State) (h : Heap) (a : Addr) (ty : FieldType) (n : Nat) (f : Nat → Value) : Prop := ∃ c : Cell, Arr Z h a c ty ∧ c.slots.size = n ∧ ∀ j, j < n → c.slots[j]? = some (f j)
def upd (f : Nat → Value) (i : Nat) (v : Value) : Nat → Value := fun k => if k = i then v else f k
theorem upd_same (f : Nat → Value) (i : Nat) (v : Value) : upd f i v i = v := by simp [upd]
theorem upd_ne {f : Nat → Value} {i k : Nat} {v : Value} (q : k ≠ i) : upd f i v k = f k := by simp [upd, q]
section W
variable {p : Program} {l : Launch} {e : Env} {R : Room} {s : State} {m : MethodId} {args : Array Value} {below : List Frame} {meth : Method} {c : Code} {T : State} {locs : List Loc} {cells slots : Nat} {Q : Option Value → Heap → List Loc → Prop} {kc ks : Nat} {Z : State} {a0 : Array Value} {h h' : Heap} {pc : Nat} {Ls : Array Slot} {st rest : List Value} {a b : Addr} {n : Nat} {f : Nat → Value} {ty : FieldType}
theorem IArr.lt (A : IArr Z h a ty n f) : a < h.size := by obtain ⟨c, A, -⟩ := A; exact A.lt
theorem IArr.ext (A : IArr Z h a ty n f) (E : Ext h h') : IArr Z h' a ty n f := by obtain ⟨c, A, r⟩ := A; exact ⟨c, A.ext E, r⟩
theorem IArr.other {sl : Nat} {v : Value} (A : IArr Z h b ty n f) (W : Wr h h' a sl v) (q : b ≠ a) : IArr Z h' b ty n f := by obtain ⟨c, A, r⟩ := A; exact ⟨c, A.other W q, r⟩
theorem IArr.keep {ws : List Addr} (A : IArr Z h a ty n f) (K : Keep h h' ws) (q : a ∉ ws) : IArr Z h' a ty n f := by obtain ⟨c, A, r⟩ := A; exact ⟨c, ⟨K.2.1 a c A.1 q, A.2⟩, r⟩
theorem IArr.same {i : Nat} {v : Value} (A : IArr Z h a ty n f) (W : Wr h h' a i v) : IArr Z h' a ty n (upd f i v) := by
  obtain ⟨c, A, S, H⟩ := A
  refine ⟨_, A.same W, by rw [sz_set]; exact S, fun j hj => ?_⟩
  unfold upd Cell.setSlot
  dsimp only
  split
  · rename_i q; subst q
    rw [Array.getElem?_setIfInBounds_self_of_lt (by omega)]
  · rename_i q
    rw [Array.getElem?_setIfInBounds_ne (Ne.symm q)]; exact H j hj
theorem IArr.fresh {cA : ClassId} {z : Int32} {k : Nat} (A : Arr Z h a (newA cA ty z) ty) (q : z.toNatClampNeg = k) : IArr Z h a ty k (fun _ => defaultValue ty) :=
  ⟨_, A, by rw [sz_new]; exact q, fun j hj => by subst q; simp [newA, hj]⟩
theorem IArr.cong {g : Nat → Value} (A : IArr Z h a ty n f) (q : ∀ j, j < n → g j = f j) : IArr Z h a ty n g := by
  obtain ⟨c, A, S, H⟩ := A; exact ⟨c, A, S, fun j hj => by rw [H j hj, q j hj]⟩
theorem nat_of {j : Int32} {i : Nat} (hj : j.toInt = (i : Int)) : ¬ j < 0 ∧ j.toNatClampNeg = i := by
  refine ⟨?_, ?_⟩
  · rw [Int32.lt_iff_toInt_lt, hj]; show ¬ (i : Int) < 0; omega
  · show j.toInt.toNat = i; rw [hj]; rfl
theorem fr1 {k : Nat} {a : Addr} {i : Nat} (q : k ≤ a) : Fr k [⟨a, i⟩] := fun y hy => by cases List.mem_singleton.mp hy; exact q
theorem own_and (x M : Int32) (hM : 0 ≤ M.toInt) : ∃ n : Nat, (n : Int) ≤ M.toInt ∧ (x &&& M).toInt = (n : Int) := by
  have h1 : (x &&& M).toBitVec.toNat ≤ M.toBitVec.toNat := by rw [Int32.toBitVec_and, BitVec.toNat_and]; exact Nat.and_le_right
  have h2 : M.toInt = if 2 * M.toBitVec.toNat < 2 ^ 32 then (M.toBitVec.toNat : Int) else (M.toBitVec.toNat : Int) - (2 ^ 32 : Nat) := BitVec.toInt_eq_toNat_cond _
  have h3 : (x &&& M).toInt = if 2 * (x &&& M).toBitVec.toNat < 2 ^ 32 then ((x &&& M).toBitVec.toNat : Int) else ((x &&& M).toBitVec.toNat : Int) - (2 ^ 32 : Nat) := BitVec.toInt_eq_toNat_cond _
  have h4 := M.toBitVec.isLt
  refine ⟨(x &&& M).toBitVec.toNat, ?_, ?_⟩
  · split at h2 <;> omega
  · split at h2 <;> split at h3 <;> omega
theorem own_rem {x y : Int32} (hx : 0 ≤ x.toInt) (hy : 0 < y.toInt) : ∃ n : Nat, (n : Int) < y.toInt ∧ (x % y).toInt = (n : Int) ∧ (n : Int) = x.toInt % y.toInt := by
  have h1 : (x % y).toInt = x.toInt.tmod y.toInt := Int32.toInt_mod _ _
  rw [Int.tmod_eq_emod_of_nonneg hx] at h1
  have h2 := Int.emod_nonneg x.toInt (Int.ne_of_gt hy)
  have h3 := Int.emod_lt_of_pos x.toInt hy
  exact ⟨(x.toInt % y.toInt).toNat, by omega, by omega, by omega⟩
theorem own_add {x y : Int32} (h1 : -2147483648 ≤ x.toInt + y.toInt) (h2 : x.toInt + y.toInt < 2147483648) : (x + y).toInt = x.toInt + y.toInt := by
  have a := c_iadd x y
  have r := rng32 (x + y)
  omega
theorem own_sub {x y : Int32} (h1 : -2147483648 ≤ x.toInt - y.toInt) (h2 : x.toInt - y.toInt < 2147483648) : (x - y).toInt = x.toInt - y.toInt := by
  have a := c_isub x y
  have r := rng32 (x - y)
  omega
theorem own_ofNat {n : Nat} (h : n < 2147483648) : (Int32.ofNat n).toInt = (n : Int) := Int32.toInt_ofNat_of_lt h
theorem own_ieq {x : Int32} {n : Nat} (h : x.toInt = (n : Int)) : x = Int32.ofNat n := by
  have r := rng32 x
  apply Int32.toInt_inj.mp; rw [h, own_ofNat (by omega)]
theorem Wp.step {S S' : State} (f : ∀ t, Steps p.tables e below S' t → Steps p.tables e below S t) (k : Wp p e s below Q kc ks S') : Wp p e s below Q kc ks S := by
  obtain ⟨s₂, o, h1, r⟩ := k
  exact ⟨s₂, o, f _ h1, r⟩
theorem Wp.chain {S S' : State} (f : Steps p.tables e below S S') (k : Wp p e s below Q kc ks S') : Wp p e s below Q kc ks S := by
  obtain ⟨s₂, o, h1, r⟩ := k
  exact ⟨s₂, o, f.trans h1, r⟩
theorem Wp.cast {S S' : State} (q : S = S') (k : Wp p e s below Q kc ks S') : Wp p e s below Q kc ks S := q ▸ k
theorem Wp.enter {g g' : JFrame} (q : g = g') (k : Wp p e s below Q kc ks (T.setTop g')) : Wp p e s below Q kc ks (T.setTop g) := q ▸ k
theorem Wp.mono {S : State} {Q' : Option Value → Heap → List Loc → Prop} {kc' ks' : Nat} (k : Wp p e s below Q' kc' ks' S) (hq : ∀ v h L, Q' v h L → Q v h L) (h1 : kc' ≤ kc) (h2 : ks' ≤ ks) : Wp p e s below Q kc ks S := by
  obtain ⟨s₂, o, g1, g2, g3, v, L, g4, g5, g6, g7, g8⟩ := k
  exact ⟨s₂, o, g1, g2, g3, v, L, g4, hq _ _ _ g5, g6, g7, g8.mono h1 h2⟩
theorem Con.of {y : MethodName} {bytes : ByteArray} {maxL : Nat} {ret : Option FieldType} {ws : List Jvm.Cond} {rm : Room} {as' : Array Value} (hpn : plainFor y = true)
    (w : ∀ p e s m below meth c s₁, p.tables.exec = Jvm.exec → c.code = bytes → c.maxLocals = maxL → s.vm.findClass y.cls = some m.cls → meth.name = y.name → meth.sig.returnType = ret → meth.locks = false → Z.Warmed39 s.vm → Stand p l e rm s m as' below meth c s₁ [] 0 0 → s₁.heap = h → Wp p e s below Q rm.cells rm.slots (s₁.setTop (entryFrame m as' maxL))) :
    Con l Z y bytes maxL ret ws rm as' h Q := by
  refine MetFree.of_bodySF hpn hisR ?_
  intro p e s m args below meth c s₁ Bd hml0 hP hK
  obtain ⟨rfl, hZ, hh⟩ := hP
  exact w p e s m below meth c s₁ Bd.exec Bd.bytes hml0 (findClass_of_methodNamed Bd.named) (name_of_methodNamed Bd.named Bd.method).1 Bd.returns (BodyLoose.notSynchronized Bd) hZ (Stand.of_body Bd) (by rw [← hh, Bd.state]; rfl)
theorem Con.mono {y : MethodName} {bytes : ByteArray} {maxL : Nat} {ret : Option FieldType} {ws : List Jvm.Cond} {rm : Room} {as' : Array Value} {Q' : Option Value → Heap → List Loc → Prop} (k : Con l Z y bytes maxL ret ws rm as' h Q') (hq : ∀ v h L, Q' v h L → Q v h L) : Con l Z y bytes maxL ret ws rm as' h Q := by
  intro p e h1 h2 h3 s m args below h4 h5 h6 h7
  obtain ⟨n, o, g1, g2, g3, v, L, g4, g5, g6⟩ := k p e h1 h2 h3 s m args below h4 h5 h6 h7
  exact ⟨n, o, g1, g2, g3, v, L, g4, hq _ _ _ g5, g6⟩
/-! the ends -/
theorem Wp.done (X : Stand p l e R s m args below meth c T locs cells slots) (hlk : meth.locks = false) {v : Option Value} (hv : meth.sig.returnType = none → v = none)
    (stp : ∀ fs, (∀ (f : JFrame) (acts : List Action), f.method = m → f.locked = none → f.entered = [] → (doReturn e (T.setTop f) acts v).1 = T.setFrames fs) → Steps p.tables e below (T.setTop (mkF m pc Ls st)) (T.setFrames fs))
    (hQ : Q v T.heap locs) (hc : cells ≤ kc) (hs : slots ≤ ks) : Wp p e s below Q kc ks (T.setTop (mkF m pc Ls st)) := by
  obtain ⟨fs, hr, hrun, hended, hW, hsame⟩ := X.leave (v := v) hv hlk
  exact ⟨_, _, stp fs hr, hrun, hended, v, locs, rfl, hQ, ⟨_, rfl⟩, hW, hsame.mono hc hs⟩
theorem W.iret (X : Stand p l e R s m args below meth c T locs cells slots) (hx : p.tables.exec = Jvm.exec) (hlk : meth.locks = false) (hret : meth.sig.returnType = some .int) (hd : decode c.code pc = .ok (.ireturn, 1)) {z : Int32} (hc : cells ≤ kc) (hs : slots ≤ ks) (hQ : Q (some (.int z)) T.heap locs) : Wp p e s below Q kc ks (T.setTop (mkF m pc Ls (.int z :: rest))) :=
  Wp.done X hlk (fun h => by rw [hret] at h; cases h) (fun fs hr => retOut X hx hret rfl (Or.inl ⟨rfl, Or.inl rfl, _, rfl⟩) hd hr) hQ hc hs
theorem W.nret (X : Stand p l e R s m args below meth c T locs cells slots) (hx : p.tables.exec = Jvm.exec) (hlk : meth.locks = false) {t : FieldType} (hret : meth.sig.returnType = some t) (ht : t = .boolean ∨ t = .byte ∨ t = .char ∨ t = .short) (hd : decode c.code pc = .ok (.ireturn, 1)) {z : Int32} (hc : cells ≤ kc) (hs : slots ≤ ks) (hQ : Q (some (.int (nar t z))) T.heap locs) : Wp p e s below Q kc ks (T.setTop (mkF m pc Ls (.int z :: rest))) :=
  Wp.done X hlk (fun h => by rw [hret] at h; cases h) (fun fs hr => retN X hx hret ht hd hr) hQ hc hs
theorem W.lret (X : Stand p l e R s m args below meth c T locs cells slots) (hx : p.tables.exec = Jvm.exec) (hlk : meth.locks = false) (hret : meth.sig.returnType = some .long) (hd : decode c.code pc = .ok (.lreturn, 1)) {z : Int64} (hc : cells ≤ kc) (hs : slots ≤ ks) (hQ : Q (some (.long z)) T.heap locs) : Wp p e s below Q kc ks (T.setTop (mkF m pc Ls (.long z :: rest))) :=
  Wp.done X hlk (fun h => by rw [hret] at h; cases h) (fun fs hr => retOut X hx hret rfl (Or.inr (Or.inl ⟨rfl, rfl, _, rfl⟩)) hd hr) hQ hc hs
theorem W.dret (X : Stand p l e R s m args below meth c T locs cells slots) (hx : p.tables.exec = Jvm.exec) (hlk : meth.locks = false) (hret : meth.sig.returnType = some .double) (hd : decode c.code pc = .ok (.dreturn, 1)) {z : UInt64} (hc : cells ≤ kc) (hs : slots ≤ ks) (hQ : Q (some (.double z)) T.heap locs) : Wp p e s below Q kc ks (T.setTop (mkF m pc Ls (.double z :: rest))) :=
  Wp.done X hlk (fun h => by rw [hret] at h; cases h) (fun fs hr => retOut X hx hret rfl (Or.inr (Or.inr (Or.inl ⟨rfl, rfl, _, rfl⟩))) hd hr) hQ hc hs
theorem W.aret (X : Stand p l e R s m args below meth c T locs cells slots) (hx : p.tables.exec = Jvm.exec) (hlk : meth.locks = false) {t : FieldType} (hret : meth.sig.returnType = some t) (ht : t.isReference = true) {w : Value} (hw : w.isRef = true) (hd : decode c.code pc = .ok (.areturn, 1)) (hc : cells ≤ kc) (hs : slots ≤ ks) (hQ : Q (some w) T.heap locs) : Wp p e s below Q kc ks (T.setTop (mkF m pc Ls (w :: rest))) :=
  Wp.done X hlk (fun h => by rw [hret] at h; cases h) (fun fs hr => retOut X hx hret (by rcases ref_cases hw with rfl | ⟨z, rfl⟩ <;> cases t <;> first | rfl | cases ht) (Or.inr (Or.inr (Or.inr (Or.inr ⟨rfl, ht, hw⟩)))) hd hr) hQ hc hs
theorem W.vret (X : Stand p l e R s m args below meth c T locs cells slots) (hx : p.tables.exec = Jvm.exec) (hlk : meth.locks = false) (hret : meth.sig.returnType = none) (hd : decode c.code pc = .ok (.return_, 1)) (hc : cells ≤ kc) (hs : slots ≤ ks) (hQ : Q none T.heap locs) : Wp p e s below Q kc ks (T.setTop (mkF m pc Ls [])) :=
  Wp.done X hlk (fun _ => rfl) (fun fs hr => X.returnOut hx hret hd hr) hQ hc hs
/-! plain steps -/
theorem W.iconst (X : Stand p l e R s m args below meth c T locs cells slots) (hx : p.tables.exec = Jvm.exec) {i : Int} (pc' : Nat) (v : Int32) (hd : decode c.code pc = .ok (.iconst i, 1)) (hv : Int32.ofInt i = v) (hp : pc + 1 = pc') (K : Wp p e s below Q kc ks (T.setTop (mkF m pc' Ls (.int v :: st)))) : Wp p e s below Q kc ks (T.setTop (mkF m pc Ls st)) := by
  subst hp hv; exact Wp.step (fun _ k => XS.iconst X.here hx rfl hd k) K
theorem W.bipush (X : Stand p l e R s m args below meth c T locs cells slots) (hx : p.tables.exec = Jvm.exec) {i : Int} (pc' : Nat) (v : Int32) (hd : decode c.code pc = .ok (.bipush i, 2)) (hv : (Int8.ofInt i).toInt32 = v) (hp : pc + 2 = pc') (K : Wp p e s below Q kc ks (T.setTop (mkF m pc' Ls (.int v :: st)))) : Wp p e s below Q kc ks (T.setTop (mkF m pc Ls st)) := by
  subst hp hv; exact Wp.step (fun _ k => XS.bipush X.here hx rfl hd k) K
theorem W.sipush (X : Stand p l e R s m args below meth c T locs cells slots) (hx : p.tables.exec = Jvm.exec) {i : Int} (pc' : Nat) (v : Int32) (hd : decode c.code pc = .ok (.sipush i, 3)) (hv : (Int16.ofInt i).toInt32 = v) (hp : pc + 3 = pc') (K : Wp p e s below Q kc ks (T.setTop (mkF m pc' Ls (.int v :: st)))) : Wp p e s below Q kc ks (T.setTop (mkF m pc Ls st)) := by
  subst hp hv; exact Wp.step (fun _ k => XS.sipush X.here hx rfl hd k) K
theorem W.lconst (X : Stand p l e R s m args below meth c T locs cells slots) (hx : p.tables.exec = Jvm.exec) {i : Fin 2} (pc' : Nat) (v : Int64) (hd : decode c.code pc = .ok (.lconst i, 1)) (hv : (Int64.ofNat i) = v) (hp : pc + 1 = pc') (K : Wp p e s below Q kc ks (T.setTop (mkF m pc' Ls (.long v :: st)))) : Wp p e s below Q kc ks (T.setTop (mkF m pc Ls st)) := by
  subst hp hv; exact Wp.step (fun _ k => XT.lconst X.here hx rfl hd k) K
theorem W.anull (X : Stand p l e R s m args below meth c T locs cells slots) (hx : p.tables.exec = Jvm.exec) (pc' : Nat) (hd : decode c.code pc = .ok (.aconst_null, 1)) (hp : pc + 1 = pc') (K : Wp p e s below Q kc ks (T.setTop (mkF m pc' Ls (.null :: st)))) : Wp p e s below Q kc ks (T.setTop (mkF m pc Ls st)) := by
  subst hp; exact Wp.step (fun _ k => XS.aconstNull X.here hx rfl hd k) K
theorem W.ldcI (X : Stand p l e R s m args below meth c T locs cells slots) (hx : p.tables.exec = Jvm.exec) (hZ : Z.Warmed39 s.vm) {own : String} {index : Nat} {v : Int32} (pc' : Nat) (hown : s.vm.findClass own = some m.cls) (w : (Jvm.Cond.constant own index v).before a0 Z = true) (hd : decode c.code pc = .ok (.ldc index, 2)) (hp : pc + 2 = pc') (K : Wp p e s below Q kc ks (T.setTop (mkF m pc' Ls (.int v :: st)))) : Wp p e s below Q kc ks (T.setTop (mkF m pc Ls st)) := by
  subst hp; exact Wp.step (fun t k => X.ldcInt hx hown (mvT hZ w) (g := mkF m pc Ls st) rfl hd t k) K
theorem W.ldcL (X : Stand p l e R s m args below meth c T locs cells slots) (hx : p.tables.exec = Jvm.exec) (hZ : Z.Warmed39 s.vm) {own : String} {index : Nat} {v : Int64} (pc' : Nat) (hown : s.vm.findClass own = some m.cls) (w : (Jvm.Cond.constantLong own index v).before a0 Z = true) (hd : decode c.code pc = .ok (.ldc2_w index, 3)) (hp : pc + 3 = pc') (K : Wp p e s below Q kc ks (T.setTop (mkF m pc' Ls (.long v :: st)))) : Wp p e s below Q kc ks (T.setTop (mkF m pc Ls st)) := by
  subst hp; exact Wp.step (fun t k => X.ldc2Long hx hown (mvT hZ w) (g := mkF m pc Ls st) rfl hd t k) K
theorem W.iloadN (X : Stand p l e R s m args below meth c T locs cells slots) (hx : p.tables.exec = Jvm.exec) {k : Fin 4} {x : Int32} (pc' : Nat) (hd : decode c.code pc = .ok (.iload_n k, 1)) (hl : Ls[k.val]? = some (.val (.int x))) (hp : pc + 1 = pc') (K : Wp p e s below Q kc ks (T.setTop (mkF m pc' Ls (.int x :: st)))) : Wp p e s below Q kc ks (T.setTop (mkF m pc Ls st)) := by
  subst hp; exact Wp.step (fun _ k => XS.iloadN X.here hx rfl hd hl k) K
theorem W.iload (X : Stand p l e R s m args below meth c T locs cells slots) (hx : p.tables.exec = Jvm.exec) {k : Nat} {x : Int32} (pc' : Nat) (hd : decode c.code pc = .ok (.iload k, 2)) (hl : Ls[k]? = some (.val (.int x))) (hp : pc + 2 = pc') (K : Wp p e s below Q kc ks (T.setTop (mkF m pc' Ls (.int x :: st)))) : Wp p e s below Q kc ks (T.setTop (mkF m pc Ls st)) := by
  subst hp; exact Wp.step (fun _ k => XS.iload X.here hx rfl hd hl k) K
theorem W.aloadN (X : Stand p l e R s m args below meth c T locs cells slots) (hx : p.tables.exec = Jvm.exec) {k : Fin 4} {x : Value} (pc' : Nat) (hd : decode c.code pc = .ok (.aload_n k, 1)) (hl : Ls[k.val]? = some (.val x)) (hr : x.isRef = true) (hp : pc + 1 = pc') (K : Wp p e s below Q kc ks (T.setTop (mkF m pc' Ls (x :: st)))) : Wp p e s below Q kc ks (T.setTop (mkF m pc Ls st)) := by
  subst hp; exact Wp.step (fun _ k => XS.aloadN X.here hx rfl hd hl hr k) K
theorem W.aload (X : Stand p l e R s m args below meth c T locs cells slots) (hx : p.tables.exec = Jvm.exec) {k : Nat} {x : Value} (pc' : Nat) (hd : decode c.code pc = .ok (.aload k, 2)) (hl : Ls[k]? = some (.val x)) (hr : x.isRef = true) (hp : pc + 2 = pc') (K : Wp p e s below Q kc ks (T.setTop (mkF m pc' Ls (x :: st)))) : Wp p e s below Q kc ks (T.setTop (mkF m pc Ls st)) := by
  subst hp; exact Wp.step (fun _ k => XS.aload X.here hx rfl hd hl hr k) K
theorem W.lloadN (X : Stand p l e R s m args below meth c T locs cells slots) (hx : p.tables.exec = Jvm.exec) {k : Fin 4} {x : Int64} (pc' : Nat) (hd : decode c.code pc = .ok (.lload_n k, 1)) (hl : Ls[k.val]? = some (.val (.long x))) (hp : pc + 1 = pc') (K : Wp p e s below Q kc ks (T.setTop (mkF m pc' Ls (.long x :: st)))) : Wp p e s below Q kc ks (T.setTop (mkF m pc Ls st)) := by
  subst hp; exact Wp.step (fun _ k => XS.lloadN X.here hx rfl hd hl k) K
theorem W.lload (X : Stand p l e R s m args below meth c T locs cells slots) (hx : p.tables.exec = Jvm.exec) {k : Nat} {x : Int64} (pc' : Nat) (hd : decode c.code pc = .ok (.lload k, 2)) (hl : Ls[k]? = some (.val (.long x))) (hp : pc + 2 = pc') (K : Wp p e s below Q kc ks (T.setTop (mkF m pc' Ls (.long x :: st)))) : Wp p e s below Q kc ks (T.setTop (mkF m pc Ls st)) := by
  subst hp; exact Wp.step (fun _ k => XS.lload X.here hx rfl hd hl k) K
theorem W.istoreN (X : Stand p l e R s m args below meth c T locs cells slots) (hx : p.tables.exec = Jvm.exec) {k : Fin 4} {x : Int32} (pc' : Nat) (l' : Array Slot) (hd : decode c.code pc = .ok (.istore_n k, 1)) (hl : storeLocals Ls k.val (.int x) = some l') (hp : pc + 1 = pc') (K : Wp p e s below Q kc ks (T.setTop (mkF m pc' l' st))) : Wp p e s below Q kc ks (T.setTop (mkF m pc Ls (.int x :: st))) := by
  subst hp; exact Wp.step (fun _ k => XS.istoreN X.here hx rfl hd rfl hl k) K
theorem W.istore (X : Stand p l e R s m args below meth c T locs cells slots) (hx : p.tables.exec = Jvm.exec) {k : Nat} {x : Int32} (pc' : Nat) (l' : Array Slot) (hd : decode c.code pc = .ok (.istore k, 2)) (hl : storeLocals Ls k (.int x) = some l') (hp : pc + 2 = pc') (K : Wp p e s below Q kc ks (T.setTop (mkF m pc' l' st))) : Wp p e s below Q kc ks (T.setTop (mkF m pc Ls (.int x :: st))) := by
  subst hp; exact Wp.step (fun _ k => XS.istore X.here hx rfl hd rfl hl k) K
theorem W.astoreN (X : Stand p l e R s m args below meth c T locs cells slots) (hx : p.tables.exec = Jvm.exec) {k : Fin 4} {x : Value} (pc' : Nat) (l' : Array Slot) (hd : decode c.code pc = .ok (.astore_n k, 1)) (hr : x.isRef = true) (hl : storeLocals Ls k.val x = some l') (hp : pc + 1 = pc') (K : Wp p e s below Q kc ks (T.setTop (mkF m pc' l' st))) : Wp p e s below Q kc ks (T.setTop (mkF m pc Ls (x :: st))) := by
  subst hp; exact Wp.step (fun _ k => XS.astoreN X.here hx rfl hd rfl hr hl k) K
theorem W.astore (X : Stand p l e R s m args below meth c T locs cells slots) (hx : p.tables.exec = Jvm.exec) {k : Nat} {x : Value} (pc' : Nat) (l' : Array Slot) (hd : decode c.code pc = .ok (.astore k, 2)) (hr : x.isRef = true) (hl : storeLocals Ls k x = some l') (hp : pc + 2 = pc') (K : Wp p e s below Q kc ks (T.setTop (mkF m pc' l' st))) : Wp p e s below Q kc ks (T.setTop (mkF m pc Ls (x :: st))) := by
  subst hp; exact Wp.step (fun _ k => XS.astore X.here hx rfl hd rfl hr hl k) K
theorem W.lstoreN (X : Stand p l e R s m args below meth c T locs cells slots) (hx : p.tables.exec = Jvm.exec) {k : Fin 4} {x : Int64} (pc' : Nat) (l' : Array Slot) (hd : decode c.code pc = .ok (.lstore_n k, 1)) (hl : storeLocals Ls k.val (.long x) = some l') (hp : pc + 1 = pc') (K : Wp p e s below Q kc ks (T.setTop (mkF m pc' l' st))) : Wp p e s below Q kc ks (T.setTop (mkF m pc Ls (.long x :: st))) := by
  subst hp; exact Wp.step (fun _ k => XS.lstoreN X.here hx rfl hd rfl hl k) K
theorem W.lstore (X : Stand p l e R s m args below meth c T locs cells slots) (hx : p.tables.exec = Jvm.exec) {k : Nat} {x : Int64} (pc' : Nat) (l' : Array Slot) (hd : decode c.code pc = .ok (.lstore k, 2)) (hl : storeLocals Ls k (.long x) = some l') (hp : pc + 2 = pc') (K : Wp p e s below Q kc ks (T.setTop (mkF m pc' l' st))) : Wp p e s below Q kc ks (T.setTop (mkF m pc Ls (.long x :: st))) := by
  subst hp; exact Wp.step (fun _ k => XS.lstore X.here hx rfl hd rfl hl k) K
theorem W.iinc (X : Stand p l e R s m args below meth c T locs cells slots) (hx : p.tables.exec = Jvm.exec) {k : Nat} {i : Int} {x : Int32} (pc' : Nat) (v : Int32) (l' : Array Slot) (hd : decode c.code pc = .ok (.iinc k i, 3)) (hv : Int32.ofInt i = v) (hl : Ls[k]? = some (.val (.int x))) (hl' : storeLocals Ls k (.int (x + v)) = some l') (hp : pc + 3 = pc') (K : Wp p e s below Q kc ks (T.setTop (mkF m pc' l' st))) : Wp p e s below Q kc ks (T.setTop (mkF m pc Ls st)) := by
  subst hp hv; exact Wp.step (fun _ k => XS.iinc X.here hx rfl hd hl hl' k) K
theorem W.iadd (X : Stand p l e R s m args below meth c T locs cells slots) (hx : p.tables.exec = Jvm.exec) {x y : Int32} (pc' : Nat) (hd : decode c.code pc = .ok (.iadd, 1)) (hp : pc + 1 = pc') (K : Wp p e s below Q kc ks (T.setTop (mkF m pc' Ls (.int (x + y) :: st)))) : Wp p e s below Q kc ks (T.setTop (mkF m pc Ls (.int y :: .int x :: st))) := by
  subst hp; exact Wp.step (fun _ k => XS.iadd X.here hx rfl hd rfl k) K
theorem W.ladd (X : Stand p l e R s m args below meth c T locs cells slots) (hx : p.tables.exec = Jvm.exec) {x y : Int64} (pc' : Nat) (hd : decode c.code pc = .ok (.ladd, 1)) (hp : pc + 1 = pc') (K : Wp p e s below Q kc ks (T.setTop (mkF m pc' Ls (.long (x + y) :: st)))) : Wp p e s below Q kc ks (T.setTop (mkF m pc Ls (.long y :: .long x :: st))) := by
  subst hp; exact Wp.step (fun _ k => XS.ladd X.here hx rfl hd rfl k) K
theorem W.isub (X : Stand p l e R s m args below meth c T locs cells slots) (hx : p.tables.exec = Jvm.exec) {x y : Int32} (pc' : Nat) (hd : decode c.code pc = .ok (.isub, 1)) (hp : pc + 1 = pc') (K : Wp p e s below Q kc ks (T.setTop (mkF m pc' Ls (.int (x - y) :: st)))) : Wp p e s below Q kc ks (T.setTop (mkF m pc Ls (.int y :: .int x :: st))) := by
  subst hp; exact Wp.step (fun _ k => XS.isub X.here hx rfl hd rfl k) K
theorem W.lsub (X : Stand p l e R s m args below meth c T locs cells slots) (hx : p.tables.exec = Jvm.exec) {x y : Int64} (pc' : Nat) (hd : decode c.code pc = .ok (.lsub, 1)) (hp : pc + 1 = pc') (K : Wp p e s below Q kc ks (T.setTop (mkF m pc' Ls (.long (x - y) :: st)))) : Wp p e s below Q kc ks (T.setTop (mkF m pc Ls (.long y :: .long x :: st))) := by
  subst hp; exact Wp.step (fun _ k => XS.lsub X.here hx rfl hd rfl k) K
theorem W.imul (X : Stand p l e R s m args below meth c T locs cells slots) (hx : p.tables.exec = Jvm.exec) {x y : Int32} (pc' : Nat) (hd : decode c.code pc = .ok (.imul, 1)) (hp : pc + 1 = pc') (K : Wp p e s below Q kc ks (T.setTop (mkF m pc' Ls (.int (x * y) :: st)))) : Wp p e s below Q kc ks (T.setTop (mkF m pc Ls (.int y :: .int x :: st))) := by
  subst hp; exact Wp.step (fun _ k => XS.imul X.here hx rfl hd rfl k) K
theorem W.lmul (X : Stand p l e R s m args below meth c T locs cells slots) (hx : p.tables.exec = Jvm.exec) {x y : Int64} (pc' : Nat) (hd : decode c.code pc = .ok (.lmul, 1)) (hp : pc + 1 = pc') (K : Wp p e s below Q kc ks (T.setTop (mkF m pc' Ls (.long (x * y) :: st)))) : Wp p e s below Q kc ks (T.setTop (mkF m pc Ls (.long y :: .long x :: st))) := by
  subst hp; exact Wp.step (fun _ k => XS.lmul X.here hx rfl hd rfl k) K
theorem W.iand (X : Stand p l e R s m args below meth c T locs cells slots) (hx : p.tables.exec = Jvm.exec) {x y : Int32} (pc' : Nat) (hd : decode c.code pc = .ok (.iand, 1)) (hp : pc + 1 = pc') (K : Wp p e s below Q kc ks (T.setTop (mkF m pc' Ls (.int (x &&& y) :: st)))) : Wp p e s below Q kc ks (T.setTop (mkF m pc Ls (.int y :: .int x :: st))) := by
  subst hp; exact Wp.step (fun _ k => XS.iand X.here hx rfl hd rfl k) K
theorem W.land (X : Stand p l e R s m args below meth c T locs cells slots) (hx : p.tables.exec = Jvm.exec) {x y : Int64} (pc' : Nat) (hd : decode c.code pc = .ok (.land, 1)) (hp : pc + 1 = pc') (K : Wp p e s below Q kc ks (T.setTop (mkF m pc' Ls (.long (x &&& y) :: st)))) : Wp p e s below Q kc ks (T.setTop (mkF m pc Ls (.long y :: .long x :: st))) := by
  subst hp; exact Wp.step (fun _ k => XS.land X.here hx rfl hd rfl k) K
theorem W.ior (X : Stand p l e R s m args below meth c T locs cells slots) (hx : p.tables.exec = Jvm.exec) {x y : Int32} (pc' : Nat) (hd : decode c.code pc = .ok (.ior, 1)) (hp : pc + 1 = pc') (K : Wp p e s below Q kc ks (T.setTop (mkF m pc' Ls (.int (x ||| y) :: st)))) : Wp p e s below Q kc ks (T.setTop (mkF m pc Ls (.int y :: .int x :: st))) := by
  subst hp; exact Wp.step (fun _ k => XS.ior X.here hx rfl hd rfl k) K
theorem W.lor (X : Stand p l e R s m args below meth c T locs cells slots) (hx : p.tables.exec = Jvm.exec) {x y : Int64} (pc' : Nat) (hd : decode c.code pc = .ok (.lor, 1)) (hp : pc + 1 = pc') (K : Wp p e s below Q kc ks (T.setTop (mkF m pc' Ls (.long (x ||| y) :: st)))) : Wp p e s below Q kc ks (T.setTop (mkF m pc Ls (.long y :: .long x :: st))) := by
  subst hp; exact Wp.step (fun _ k => XS.lor X.here hx rfl hd rfl k) K
theorem W.ixor (X : Stand p l e R s m args below meth c T locs cells slots) (hx : p.tables.exec = Jvm.exec) {x y : Int32} (pc' : Nat) (hd : decode c.code pc = .ok (.ixor, 1)) (hp : pc + 1 = pc') (K : Wp p e s below Q kc ks (T.setTop (mkF m pc' Ls (.int (x ^^^ y) :: st)))) : Wp p e s below Q kc ks (T.setTop (mkF m pc Ls (.int y :: .int x :: st))) := by
  subst hp; exact Wp.step (fun _ k => XS.ixor X.here hx rfl hd rfl k) K
theorem W.lxor (X : Stand p l e R s m args below meth c T locs cells slots) (hx : p.tables.exec = Jvm.exec) {x y : Int64} (pc' : Nat) (hd : decode c.code pc = .ok (.lxor, 1)) (hp : pc + 1 = pc') (K : Wp p e s below Q kc ks (T.setTop (mkF m pc' Ls (.long (x ^^^ y) :: st)))) : Wp p e s below Q kc ks (T.setTop (mkF m pc Ls (.long y :: .long x :: st))) := by
  subst hp; exact Wp.step (fun _ k => XS.lxor X.here hx rfl hd rfl k) K
theorem W.ishl (X : Stand p l e R s m args below meth c T locs cells slots) (hx : p.tables.exec = Jvm.exec) {x y : Int32} (pc' : Nat) (hd : decode c.code pc = .ok (.ishl, 1)) (hp : pc + 1 = pc') (K : Wp p e s below Q kc ks (T.setTop (mkF m pc' Ls (.int (x <<< (y &&& 31)) :: st)))) : Wp p e s below Q kc ks (T.setTop (mkF m pc Ls (.int y :: .int x :: st))) := by
  subst hp; exact Wp.step (fun _ k => XS.ishl X.here hx rfl hd rfl k) K
theorem W.ishr (X : Stand p l e R s m args below meth c T locs cells slots) (hx : p.tables.exec = Jvm.exec) {x y : Int32} (pc' : Nat) (hd : decode c.code pc = .ok (.ishr, 1)) (hp : pc + 1 = pc') (K : Wp p e s below Q kc ks (T.setTop (mkF m pc' Ls (.int (x >>> (y &&& 31)) :: st)))) : Wp p e s below Q kc ks (T.setTop (mkF m pc Ls (.int y :: .int x :: st))) := by
  subst hp; exact Wp.step (fun _ k => XS.ishr X.here hx rfl hd rfl k) K
theorem W.iushr (X : Stand p l e R s m args below meth c T locs cells slots) (hx : p.tables.exec = Jvm.exec) {x y : Int32} (pc' : Nat) (hd : decode c.code pc = .ok (.iushr, 1)) (hp : pc + 1 = pc') (K : Wp p e s below Q kc ks (T.setTop (mkF m pc' Ls (.int ((x.toUInt32 >>> (y &&& 31).toUInt32).toInt32) :: st)))) : Wp p e s below Q kc ks (T.setTop (mkF m pc Ls (.int y :: .int x :: st))) := by
  subst hp; exact Wp.step (fun _ k => XS.iushr X.here hx rfl hd rfl k) K
theorem W.lshl (X : Stand p l e R s m args below meth c T locs cells slots) (hx : p.tables.exec = Jvm.exec) {x : Int64} {y : Int32} (pc' : Nat) (hd : decode c.code pc = .ok (.lshl, 1)) (hp : pc + 1 = pc') (K : Wp p e s below Q kc ks (T.setTop (mkF m pc' Ls (.long (x <<< (y &&& 0x3f).toInt64) :: st)))) : Wp p e s below Q kc ks (T.setTop (mkF m pc Ls (.int y :: .long x :: st))) := by
  subst hp; exact Wp.step (fun _ k => XS.lshl X.here hx rfl hd rfl k) K
theorem W.lshr (X : Stand p l e R s m args below meth c T locs cells slots) (hx : p.tables.exec = Jvm.exec) {x : Int64} {y : Int32} (pc' : Nat) (hd : decode c.code pc = .ok (.lshr, 1)) (hp : pc + 1 = pc') (K : Wp p e s below Q kc ks (T.setTop (mkF m pc' Ls (.long (x >>> (y &&& 0x3f).toInt64) :: st)))) : Wp p e s below Q kc ks (T.setTop (mkF m pc Ls (.int y :: .long x :: st))) := by
  subst hp; exact Wp.step (fun _ k => XS.lshr X.here hx rfl hd rfl k) K
theorem W.lushr (X : Stand p l e R s m args below meth c T locs cells slots) (hx : p.tables.exec = Jvm.exec) {x : Int64} {y : Int32} (pc' : Nat) (hd : decode c.code pc = .ok (.lushr, 1)) (hp : pc + 1 = pc') (K : Wp p e s below Q kc ks (T.setTop (mkF m pc' Ls (.long ((x.toUInt64 >>> (y &&& 0x3f).toInt64.toUInt64).toInt64) :: st)))) : Wp p e s below Q kc ks (T.setTop (mkF m pc Ls (.int y :: .long x :: st))) := by
  subst hp; exact Wp.step (fun _ k => XS.lushr X.here hx rfl hd rfl k) K
theorem W.lcmp (X : Stand p l e R s m args below meth c T locs cells slots) (hx : p.tables.exec = Jvm.exec) {x y : Int64} (pc' : Nat) (hd : decode c.code pc = .ok (.lcmp, 1)) (hp : pc + 1 = pc') (K : Wp p e s below Q kc ks (T.setTop (mkF m pc' Ls (.int (lcmpW x y) :: st)))) : Wp p e s below Q kc ks (T.setTop (mkF m pc Ls (.long y :: .long x :: st))) := by
  subst hp; exact Wp.step (fun _ k => XS.lcmp X.here hx rfl hd rfl k) K
theorem W.irem (X : Stand p l e R s m args below meth c T locs cells slots) (hx : p.tables.exec = Jvm.exec) {x y : Int32} (pc' : Nat) (hd : decode c.code pc = .ok (.irem, 1)) (hy : y ≠ 0) (hp : pc + 1 = pc') (K : Wp p e s below Q kc ks (T.setTop (mkF m pc' Ls (.int (x % y) :: st)))) : Wp p e s below Q kc ks (T.setTop (mkF m pc Ls (.int y :: .int x :: st))) := by
  subst hp; exact Wp.step (fun _ k => iremM X hx (g := mkF m pc Ls (.int y :: .int x :: st)) rfl hd rfl hy k) K
theorem W.idiv (X : Stand p l e R s m args below meth c T locs cells slots) (hx : p.tables.exec = Jvm.exec) {x y : Int32} (pc' : Nat) (hd : decode c.code pc = .ok (.idiv, 1)) (hy : y ≠ 0) (hp : pc + 1 = pc') (K : Wp p e s below Q kc ks (T.setTop (mkF m pc' Ls (.int (x / y) :: st)))) : Wp p e s below Q kc ks (T.setTop (mkF m pc Ls (.int y :: .int x :: st))) := by
  subst hp; exact Wp.step (fun _ k => XS.idiv X.here hx rfl hd rfl hy k) K
theorem W.ineg (X : Stand p l e R s m args below meth c T locs cells slots) (hx : p.tables.exec = Jvm.exec) {x : Int32} (pc' : Nat) (hd : decode c.code pc = .ok (.ineg, 1)) (hp : pc + 1 = pc') (K : Wp p e s below Q kc ks (T.setTop (mkF m pc' Ls (.int (-x) :: st)))) : Wp p e s below Q kc ks (T.setTop (mkF m pc Ls (.int x :: st))) := by
  subst hp; exact Wp.step (fun _ k => XS.ineg X.here hx rfl hd rfl k) K
theorem W.lneg (X : Stand p l e R s m args below meth c T locs cells slots) (hx : p.tables.exec = Jvm.exec) {x : Int64} (pc' : Nat) (hd : decode c.code pc = .ok (.lneg, 1)) (hp : pc + 1 = pc') (K : Wp p e s below Q kc ks (T.setTop (mkF m pc' Ls (.long (-x) :: st)))) : Wp p e s below Q kc ks (T.setTop (mkF m pc Ls (.long x :: st))) := by
  subst hp; exact Wp.step (fun _ k => XS.lneg X.here hx rfl hd rfl k) K
theorem W.i2b (X : Stand p l e R s m args below meth c T locs cells slots) (hx : p.tables.exec = Jvm.exec) {x : Int32} (pc' : Nat) (hd : decode c.code pc = .ok (.i2b, 1)) (hp : pc + 1 = pc') (K : Wp p e s below Q kc ks (T.setTop (mkF m pc' Ls (.int x.toInt8.toInt32 :: st)))) : Wp p e s below Q kc ks (T.setTop (mkF m pc Ls (.int x :: st))) := by
  subst hp; exact Wp.step (fun _ k => XS.i2b X.here hx rfl hd rfl k) K
theorem W.i2c (X : Stand p l e R s m args below meth c T locs cells slots) (hx : p.tables.exec = Jvm.exec) {x : Int32} (pc' : Nat) (hd : decode c.code pc = .ok (.i2c, 1)) (hp : pc + 1 = pc') (K : Wp p e s below Q kc ks (T.setTop (mkF m pc' Ls (.int x.toUInt32.toUInt16.toUInt32.toInt32 :: st)))) : Wp p e s below Q kc ks (T.setTop (mkF m pc Ls (.int x :: st))) := by
  subst hp; exact Wp.step (fun _ k => XS.i2c X.here hx rfl hd rfl k) K
theorem W.i2s (X : Stand p l e R s m args below meth c T locs cells slots) (hx : p.tables.exec = Jvm.exec) {x : Int32} (pc' : Nat) (hd : decode c.code pc = .ok (.i2s, 1)) (hp : pc + 1 = pc') (K : Wp p e s below Q kc ks (T.setTop (mkF m pc' Ls (.int x.toInt16.toInt32 :: st)))) : Wp p e s below Q kc ks (T.setTop (mkF m pc Ls (.int x :: st))) := by
  subst hp; exact Wp.step (fun _ k => XS.i2s X.here hx rfl hd rfl k) K
theorem W.i2l (X : Stand p l e R s m args below meth c T locs cells slots) (hx : p.tables.exec = Jvm.exec) {x : Int32} (pc' : Nat) (hd : decode c.code pc = .ok (.i2l, 1)) (hp : pc + 1 = pc') (K : Wp p e s below Q kc ks (T.setTop (mkF m pc' Ls (.long x.toInt64 :: st)))) : Wp p e s below Q kc ks (T.setTop (mkF m pc Ls (.int x :: st))) := by
  subst hp; exact Wp.step (fun _ k => XS.i2l X.here hx rfl hd rfl k) K
theorem W.l2i (X : Stand p l e R s m args below meth c T locs cells slots) (hx : p.tables.exec = Jvm.exec) {x : Int64} (pc' : Nat) (hd : decode c.code pc = .ok (.l2i, 1)) (hp : pc + 1 = pc') (K : Wp p e s below Q kc ks (T.setTop (mkF m pc' Ls (.int x.toInt32 :: st)))) : Wp p e s below Q kc ks (T.setTop (mkF m pc Ls (.long x :: st))) := by
  subst hp; exact Wp.step (fun _ k => XS.l2i X.here hx rfl hd rfl k) K
theorem W.dup (X : Stand p l e R s m args below meth c T locs cells slots) (hx : p.tables.exec = Jvm.exec) {x : Value} (pc' : Nat) (hd : decode c.code pc = .ok (.dup, 1)) (hc : x.category = 1) (hp : pc + 1 = pc') (K : Wp p e s below Q kc ks (T.setTop (mkF m pc' Ls (x :: x :: st)))) : Wp p e s below Q kc ks (T.setTop (mkF m pc Ls (x :: st))) := by
  subst hp; exact Wp.step (fun _ k => XS.dup X.here hx rfl hd rfl hc k) K
theorem W.pop1 (X : Stand p l e R s m args below meth c T locs cells slots) (hx : p.tables.exec = Jvm.exec) {x : Value} (pc' : Nat) (hd : decode c.code pc = .ok (.pop, 1)) (hc : x.category = 1) (hp : pc + 1 = pc') (K : Wp p e s below Q kc ks (T.setTop (mkF m pc' Ls st))) : Wp p e s below Q kc ks (T.setTop (mkF m pc Ls (x :: st))) := by
  subst hp; exact Wp.step (fun _ k => XS.pop X.here hx rfl hd rfl hc k) K
theorem W.dup2 (X : Stand p l e R s m args below meth c T locs cells slots) (hx : p.tables.exec = Jvm.exec) {x y : Value} (pc' : Nat) (hd : decode c.code pc = .ok (.dup2, 1)) (hc : x.category = 1) (hc' : y.category = 1) (hp : pc + 1 = pc') (K : Wp p e s below Q kc ks (T.setTop (mkF m pc' Ls (x :: y :: x :: y :: st)))) : Wp p e s below Q kc ks (T.setTop (mkF m pc Ls (x :: y :: st))) := by
  subst hp; exact Wp.step (fun _ k => XT.dup2 X.here hx rfl hd rfl hc hc' k) K
theorem W.dupX1 (X : Stand p l e R s m args below meth c T locs cells slots) (hx : p.tables.exec = Jvm.exec) {x y : Value} (pc' : Nat) (hd : decode c.code pc = .ok (.dup_x1, 1)) (hc : x.category = 1) (hc' : y.category = 1) (hp : pc + 1 = pc') (K : Wp p e s below Q kc ks (T.setTop (mkF m pc' Ls (x :: y :: x :: st)))) : Wp p e s below Q kc ks (T.setTop (mkF m pc Ls (x :: y :: st))) := by
  subst hp; exact Wp.step (fun _ k => XS.dupX1 X.here hx rfl hd rfl hc hc' k) K
theorem W.goto (X : Stand p l e R s m args below meth c T locs cells slots) (hx : p.tables.exec = Jvm.exec) {o : Int} (pc' : Nat) (hd : decode c.code pc = .ok (.goto o, 3)) (ho : 0 ≤ (pc : Int) + o) (hp : ((pc : Int) + o).toNat = pc') (K : Wp p e s below Q kc ks (T.setTop (mkF m pc' Ls st))) : Wp p e s below Q kc ks (T.setTop (mkF m pc Ls st)) :=
  Wp.step (fun _ k => XS.goto X.here hx rfl rfl hd ho hp k) K
theorem W.icmp (X : Stand p l e R s m args below meth c T locs cells slots) (hx : p.tables.exec = Jvm.exec) {cd : ClassFile.Cond} {o : Int} {x y : Int32} (pcT pcF : Nat) (hd : decode c.code pc = .ok (.if_icmp cd o, 3)) (ho : 0 ≤ (pc : Int) + o) (hp : ((pc : Int) + o).toNat = pcT) (hq : pc + 3 = pcF) (KT : if_icmp.holds cd x y = true → Wp p e s below Q kc ks (T.setTop (mkF m pcT Ls st))) (KF : if_icmp.holds cd x y = false → Wp p e s below Q kc ks (T.setTop (mkF m pcF Ls st))) : Wp p e s below Q kc ks (T.setTop (mkF m pc Ls (.int y :: .int x :: st))) := by
  subst hq
  cases hh : if_icmp.holds cd x y
  · exact Wp.step (fun _ k => XS.icmpNo X.here hx rfl hd rfl hh k) (KF hh)
  · exact Wp.step (fun _ k => XS.icmpYes X.here hx rfl rfl hd rfl hh ho hp k) (KT hh)
theorem W.ifc (X : Stand p l e R s m args below meth c T locs cells slots) (hx : p.tables.exec = Jvm.exec) {cd : ClassFile.Cond} {o : Int} {x : Int32} (pcT pcF : Nat) (hd : decode c.code pc = .ok (.ifCond cd o, 3)) (ho : 0 ≤ (pc : Int) + o) (hp : ((pc : Int) + o).toNat = pcT) (hq : pc + 3 = pcF) (KT : if_icmp.holds cd x 0 = true → Wp p e s below Q kc ks (T.setTop (mkF m pcT Ls st))) (KF : if_icmp.holds cd x 0 = false → Wp p e s below Q kc ks (T.setTop (mkF m pcF Ls st))) : Wp p e s below Q kc ks (T.setTop (mkF m pc Ls (.int x :: st))) := by
  subst hq
  rw [← if0] at KT KF
  cases hh : ifCond.holds cd x
  · exact Wp.step (fun _ k => XS.ifNo X.here hx rfl hd rfl hh k) (KF hh)
  · exact Wp.step (fun _ k => XS.ifYes X.here hx rfl rfl hd rfl hh ho hp k) (KT hh)
theorem W.icmpEq (X : Stand p l e R s m args below meth c T locs cells slots) (hx : p.tables.exec = Jvm.exec) {o : Int} {x y : Int32} (pcT pcF : Nat) (hd : decode c.code pc = .ok (.if_icmp .eq o, 3)) (ho : 0 ≤ (pc : Int) + o) (hp : ((pc : Int) + o).toNat = pcT) (hq : pc + 3 = pcF) (KT : x = y → Wp p e s below Q kc ks (T.setTop (mkF m pcT Ls st))) (KF : ¬ x = y → Wp p e s below Q kc ks (T.setTop (mkF m pcF Ls st))) : Wp p e s below Q kc ks (T.setTop (mkF m pc Ls (.int y :: .int x :: st))) :=
  W.icmp X hx pcT pcF hd ho hp hq (fun hh => KT (Decidable.byContradiction fun q => by rw [(feq q).1] at hh; cases hh)) (fun hh => KF (fun q => by rw [(teq q).1] at hh; cases hh))
theorem W.ifEq (X : Stand p l e R s m args below meth c T locs cells slots) (hx : p.tables.exec = Jvm.exec) {o : Int} {x : Int32} (pcT pcF : Nat) (hd : decode c.code pc = .ok (.ifCond .eq o, 3)) (ho : 0 ≤ (pc : Int) + o) (hp : ((pc : Int) + o).toNat = pcT) (hq : pc + 3 = pcF) (KT : x = 0 → Wp p e s below Q kc ks (T.setTop (mkF m pcT Ls st))) (KF : ¬ x = 0 → Wp p e s below Q kc ks (T.setTop (mkF m pcF Ls st))) : Wp p e s below Q kc ks (T.setTop (mkF m pc Ls (.int x :: st))) :=
  W.ifc X hx pcT pcF hd ho hp hq (fun hh => KT (Decidable.byContradiction fun q => by rw [(feq q).1] at hh; cases hh)) (fun hh => KF (fun q => by rw [(teq q).1] at hh; cases hh))
theorem W.icmpNe (X : Stand p l e R s m args below meth c T locs cells slots) (hx : p.tables.exec = Jvm.exec) {o : Int} {x y : Int32} (pcT pcF : Nat) (hd : decode c.code pc = .ok (.if_icmp .ne o, 3)) (ho : 0 ≤ (pc : Int) + o) (hp : ((pc : Int) + o).toNat = pcT) (hq : pc + 3 = pcF) (KT : ¬ x = y → Wp p e s below Q kc ks (T.setTop (mkF m pcT Ls st))) (KF : x = y → Wp p e s below Q kc ks (T.setTop (mkF m pcF Ls st))) : Wp p e s below Q kc ks (T.setTop (mkF m pc Ls (.int y :: .int x :: st))) :=
  W.icmp X hx pcT pcF hd ho hp hq (fun hh => KT (fun q => by rw [(teq q).2] at hh; cases hh)) (fun hh => KF (Decidable.byContradiction fun q => by rw [(feq q).2] at hh; cases hh))
theorem W.ifNe (X : Stand p l e R s m args below meth c T locs cells slots) (hx : p.tables.exec = Jvm.exec) {o : Int} {x : Int32} (pcT pcF : Nat) (hd : decode c.code pc = .ok (.ifCond .ne o, 3)) (ho : 0 ≤ (pc : Int) + o) (hp : ((pc : Int) + o).toNat = pcT) (hq : pc + 3 = pcF) (KT : ¬ x = 0 → Wp p e s below Q kc ks (T.setTop (mkF m pcT Ls st))) (KF : x = 0 → Wp p e s below Q kc ks (T.setTop (mkF m pcF Ls st))) : Wp p e s below Q kc ks (T.setTop (mkF m pc Ls (.int x :: st))) :=
  W.ifc X hx pcT pcF hd ho hp hq (fun hh => KT (fun q => by rw [(teq q).2] at hh; cases hh)) (fun hh => KF (Decidable.byContradiction fun q => by rw [(feq q).2] at hh; cases hh))
theorem W.icmpLt (X : Stand p l e R s m args below meth c T locs cells slots) (hx : p.tables.exec = Jvm.exec) {o : Int} {x y : Int32} (pcT pcF : Nat) (hd : decode c.code pc = .ok (.if_icmp .lt o, 3)) (ho : 0 ≤ (pc : Int) + o) (hp : ((pc : Int) + o).toNat = pcT) (hq : pc + 3 = pcF) (KT : x < y → Wp p e s below Q kc ks (T.setTop (mkF m pcT Ls st))) (KF : ¬ x < y → Wp p e s below Q kc ks (T.setTop (mkF m pcF Ls st))) : Wp p e s below Q kc ks (T.setTop (mkF m pc Ls (.int y :: .int x :: st))) :=
  W.icmp X hx pcT pcF hd ho hp hq (fun hh => KT (Decidable.byContradiction fun q => by rw [(flt q).1] at hh; cases hh)) (fun hh => KF (fun q => by rw [(tlt q).1] at hh; cases hh))
theorem W.ifLt (X : Stand p l e R s m args below meth c T locs cells slots) (hx : p.tables.exec = Jvm.exec) {o : Int} {x : Int32} (pcT pcF : Nat) (hd : decode c.code pc = .ok (.ifCond .lt o, 3)) (ho : 0 ≤ (pc : Int) + o) (hp : ((pc : Int) + o).toNat = pcT) (hq : pc + 3 = pcF) (KT : x < 0 → Wp p e s below Q kc ks (T.setTop (mkF m pcT Ls st))) (KF : ¬ x < 0 → Wp p e s below Q kc ks (T.setTop (mkF m pcF Ls st))) : Wp p e s below Q kc ks (T.setTop (mkF m pc Ls (.int x :: st))) :=
  W.ifc X hx pcT pcF hd ho hp hq (fun hh => KT (Decidable.byContradiction fun q => by rw [(flt q).1] at hh; cases hh)) (fun hh => KF (fun q => by rw [(tlt q).1] at hh; cases hh))
theorem W.icmpGe (X : Stand p l e R s m args below meth c T locs cells slots) (hx : p.tables.exec = Jvm.exec) {o : Int} {x y : Int32} (pcT pcF : Nat) (hd : decode c.code pc = .ok (.if_icmp .ge o, 3)) (ho : 0 ≤ (pc : Int) + o) (hp : ((pc : Int) + o).toNat = pcT) (hq : pc + 3 = pcF) (KT : ¬ x < y → Wp p e s below Q kc ks (T.setTop (mkF m pcT Ls st))) (KF : x < y → Wp p e s below Q kc ks (T.setTop (mkF m pcF Ls st))) : Wp p e s below Q kc ks (T.setTop (mkF m pc Ls (.int y :: .int x :: st))) :=
  W.icmp X hx pcT pcF hd ho hp hq (fun hh => KT (fun q => by rw [(tlt q).2.1] at hh; cases hh)) (fun hh => KF (Decidable.byContradiction fun q => by rw [(flt q).2.1] at hh; cases hh))
theorem W.ifGe (X : Stand p l e R s m args below meth c T locs cells slots) (hx : p.tables.exec = Jvm.exec) {o : Int} {x : Int32} (pcT pcF : Nat) (hd : decode c.code pc = .ok (.ifCond .ge o, 3)) (ho : 0 ≤ (pc : Int) + o) (hp : ((pc : Int) + o).toNat = pcT) (hq : pc + 3 = pcF) (KT : ¬ x < 0 → Wp p e s below Q kc ks (T.setTop (mkF m pcT Ls st))) (KF : x < 0 → Wp p e s below Q kc ks (T.setTop (mkF m pcF Ls st))) : Wp p e s below Q kc ks (T.setTop (mkF m pc Ls (.int x :: st))) :=
  W.ifc X hx pcT pcF hd ho hp hq (fun hh => KT (fun q => by rw [(tlt q).2.1] at hh; cases hh)) (fun hh => KF (Decidable.byContradiction fun q => by rw [(flt q).2.1] at hh; cases hh))
theorem W.icmpGt (X : Stand p l e R s m args below meth c T locs cells slots) (hx : p.tables.exec = Jvm.exec) {o : Int} {x y : Int32} (pcT pcF : Nat) (hd : decode c.code pc = .ok (.if_icmp .gt o, 3)) (ho : 0 ≤ (pc : Int) + o) (hp : ((pc : Int) + o).toNat = pcT) (hq : pc + 3 = pcF) (KT : y < x → Wp p e s below Q kc ks (T.setTop (mkF m pcT Ls st))) (KF : ¬ y < x → Wp p e s below Q kc ks (T.setTop (mkF m pcF Ls st))) : Wp p e s below Q kc ks (T.setTop (mkF m pc Ls (.int y :: .int x :: st))) :=
  W.icmp X hx pcT pcF hd ho hp hq (fun hh => KT (Decidable.byContradiction fun q => by rw [(flt q).2.2.1] at hh; cases hh)) (fun hh => KF (fun q => by rw [(tlt q).2.2.1] at hh; cases hh))
theorem W.ifGt (X : Stand p l e R s m args below meth c T locs cells slots) (hx : p.tables.exec = Jvm.exec) {o : Int} {x : Int32} (pcT pcF : Nat) (hd : decode c.code pc = .ok (.ifCond .gt o, 3)) (ho : 0 ≤ (pc : Int) + o) (hp : ((pc : Int) + o).toNat = pcT) (hq : pc + 3 = pcF) (KT : 0 < x → Wp p e s below Q kc ks (T.setTop (mkF m pcT Ls st))) (KF : ¬ 0 < x → Wp p e s below Q kc ks (T.setTop (mkF m pcF Ls st))) : Wp p e s below Q kc ks (T.setTop (mkF m pc Ls (.int x :: st))) :=
  W.ifc X hx pcT pcF hd ho hp hq (fun hh => KT (Decidable.byContradiction fun q => by rw [(flt q).2.2.1] at hh; cases hh)) (fun hh => KF (fun q => by rw [(tlt q).2.2.1] at hh; cases hh))
theorem W.icmpLe (X : Stand p l e R s m args below meth c T locs cells slots) (hx : p.tables.exec = Jvm.exec) {o : Int} {x y : Int32} (pcT pcF : Nat) (hd : decode c.code pc = .ok (.if_icmp .le o, 3)) (ho : 0 ≤ (pc : Int) + o) (hp : ((pc : Int) + o).toNat = pcT) (hq : pc + 3 = pcF) (KT : ¬ y < x → Wp p e s below Q kc ks (T.setTop (mkF m pcT Ls st))) (KF : y < x → Wp p e s below Q kc ks (T.setTop (mkF m pcF Ls st))) : Wp p e s below Q kc ks (T.setTop (mkF m pc Ls (.int y :: .int x :: st))) :=
  W.icmp X hx pcT pcF hd ho hp hq (fun hh => KT (fun q => by rw [(tlt q).2.2.2] at hh; cases hh)) (fun hh => KF (Decidable.byContradiction fun q => by rw [(flt q).2.2.2] at hh; cases hh))
theorem W.ifLe (X : Stand p l e R s m args below meth c T locs cells slots) (hx : p.tables.exec = Jvm.exec) {o : Int} {x : Int32} (pcT pcF : Nat) (hd : decode c.code pc = .ok (.ifCond .le o, 3)) (ho : 0 ≤ (pc : Int) + o) (hp : ((pc : Int) + o).toNat = pcT) (hq : pc + 3 = pcF) (KT : ¬ 0 < x → Wp p e s below Q kc ks (T.setTop (mkF m pcT Ls st))) (KF : 0 < x → Wp p e s below Q kc ks (T.setTop (mkF m pcF Ls st))) : Wp p e s below Q kc ks (T.setTop (mkF m pc Ls (.int x :: st))) :=
  W.ifc X hx pcT pcF hd ho hp hq (fun hh => KT (fun q => by rw [(tlt q).2.2.2] at hh; cases hh)) (fun hh => KF (Decidable.byContradiction fun q => by rw [(flt q).2.2.2] at hh; cases hh))
theorem W.lifEq (X : Stand p l e R s m args below meth c T locs cells slots) (hx : p.tables.exec = Jvm.exec) {o : Int} {x y : Int64} (pcT pcF : Nat) (hd : decode c.code pc = .ok (.ifCond .eq o, 3)) (ho : 0 ≤ (pc : Int) + o) (hp : ((pc : Int) + o).toNat = pcT) (hq : pc + 3 = pcF) (KT : x = y → Wp p e s below Q kc ks (T.setTop (mkF m pcT Ls st))) (KF : ¬ x = y → Wp p e s below Q kc ks (T.setTop (mkF m pcF Ls st))) : Wp p e s below Q kc ks (T.setTop (mkF m pc Ls (.int (lcmpW x y) :: st))) :=
  W.ifEq X hx pcT pcF hd ho hp hq (fun q => KT ((lw_eq x y).mp q)) (fun q => KF (fun r => q ((lw_eq x y).mpr r)))
theorem W.lifNe (X : Stand p l e R s m args below meth c T locs cells slots) (hx : p.tables.exec = Jvm.exec) {o : Int} {x y : Int64} (pcT pcF : Nat) (hd : decode c.code pc = .ok (.ifCond .ne o, 3)) (ho : 0 ≤ (pc : Int) + o) (hp : ((pc : Int) + o).toNat = pcT) (hq : pc + 3 = pcF) (KT : ¬ x = y → Wp p e s below Q kc ks (T.setTop (mkF m pcT Ls st))) (KF : x = y → Wp p e s below Q kc ks (T.setTop (mkF m pcF Ls st))) : Wp p e s below Q kc ks (T.setTop (mkF m pc Ls (.int (lcmpW x y) :: st))) :=
  W.ifNe X hx pcT pcF hd ho hp hq (fun q => KT (fun r => q ((lw_eq x y).mpr r))) (fun q => KF ((lw_eq x y).mp q))
theorem W.lifLt (X : Stand p l e R s m args below meth c T locs cells slots) (hx : p.tables.exec = Jvm.exec) {o : Int} {x y : Int64} (pcT pcF : Nat) (hd : decode c.code pc = .ok (.ifCond .lt o, 3)) (ho : 0 ≤ (pc : Int) + o) (hp : ((pc : Int) + o).toNat = pcT) (hq : pc + 3 = pcF) (KT : x < y → Wp p e s below Q kc ks (T.setTop (mkF m pcT Ls st))) (KF : ¬ x < y → Wp p e s below Q kc ks (T.setTop (mkF m pcF Ls st))) : Wp p e s below Q kc ks (T.setTop (mkF m pc Ls (.int (lcmpW x y) :: st))) :=
  W.ifLt X hx pcT pcF hd ho hp hq (fun q => KT ((lw_lt x y).mp q)) (fun q => KF (fun r => q ((lw_lt x y).mpr r)))
theorem W.lifGe (X : Stand p l e R s m args below meth c T locs cells slots) (hx : p.tables.exec = Jvm.exec) {o : Int} {x y : Int64} (pcT pcF : Nat) (hd : decode c.code pc = .ok (.ifCond .ge o, 3)) (ho : 0 ≤ (pc : Int) + o) (hp : ((pc : Int) + o).toNat = pcT) (hq : pc + 3 = pcF) (KT : ¬ x < y → Wp p e s below Q kc ks (T.setTop (mkF m pcT Ls st))) (KF : x < y → Wp p e s below Q kc ks (T.setTop (mkF m pcF Ls st))) : Wp p e s below Q kc ks (T.setTop (mkF m pc Ls (.int (lcmpW x y) :: st))) :=
  W.ifGe X hx pcT pcF hd ho hp hq (fun q => KT (fun r => q ((lw_lt x y).mpr r))) (fun q => KF ((lw_lt x y).mp q))
theorem W.lifGt (X : Stand p l e R s m args below meth c T locs cells slots) (hx : p.tables.exec = Jvm.exec) {o : Int} {x y : Int64} (pcT pcF : Nat) (hd : decode c.code pc = .ok (.ifCond .gt o, 3)) (ho : 0 ≤ (pc : Int) + o) (hp : ((pc : Int) + o).toNat = pcT) (hq : pc + 3 = pcF) (KT : y < x → Wp p e s below Q kc ks (T.setTop (mkF m pcT Ls st))) (KF : ¬ y < x → Wp p e s below Q kc ks (T.setTop (mkF m pcF Ls st))) : Wp p e s below Q kc ks (T.setTop (mkF m pc Ls (.int (lcmpW x y) :: st))) :=
  W.ifGt X hx pcT pcF hd ho hp hq (fun q => KT ((lw_gt x y).mp q)) (fun q => KF (fun r => q ((lw_gt x y).mpr r)))
theorem W.lifLe (X : Stand p l e R s m args below meth c T locs cells slots) (hx : p.tables.exec = Jvm.exec) {o : Int} {x y : Int64} (pcT pcF : Nat) (hd : decode c.code pc = .ok (.ifCond .le o, 3)) (ho : 0 ≤ (pc : Int) + o) (hp : ((pc : Int) + o).toNat = pcT) (hq : pc + 3 = pcF) (KT : ¬ y < x → Wp p e s below Q kc ks (T.setTop (mkF m pcT Ls st))) (KF : y < x → Wp p e s below Q kc ks (T.setTop (mkF m pcF Ls st))) : Wp p e s below Q kc ks (T.setTop (mkF m pc Ls (.int (lcmpW x y) :: st))) :=
  W.ifLe X hx pcT pcF hd ho hp hq (fun q => KT (fun r => q ((lw_gt x y).mpr r))) (fun q => KF ((lw_gt x y).mp q))
theorem W.nonnullR (X : Stand p l e R s m args below meth c T locs cells slots) (hx : p.tables.exec = Jvm.exec) {o : Int} {b : Addr} (pcT : Nat) (hd : decode c.code pc = .ok (.ifnonnull o, 3)) (ho : 0 ≤ (pc : Int) + o) (hp : ((pc : Int) + o).toNat = pcT) (K : Wp p e s below Q kc ks (T.setTop (mkF m pcT Ls st))) : Wp p e s below Q kc ks (T.setTop (mkF m pc Ls (.ref b :: st))) :=
  Wp.step (fun _ k => XS.ifnonnullYes X.here hx rfl rfl hd rfl ho hp k) K
theorem W.nonnullN (X : Stand p l e R s m args below meth c T locs cells slots) (hx : p.tables.exec = Jvm.exec) {o : Int} (pc' : Nat) (hd : decode c.code pc = .ok (.ifnonnull o, 3)) (hp : pc + 3 = pc') (K : Wp p e s below Q kc ks (T.setTop (mkF m pc' Ls st))) : Wp p e s below Q kc ks (T.setTop (mkF m pc Ls (.null :: st))) := by
  subst hp; exact Wp.step (fun _ k => XS.ifnonnullNo X.here hx rfl hd rfl k) K
theorem W.nullN (X : Stand p l e R s m args below meth c T locs cells slots) (hx : p.tables.exec = Jvm.exec) {o : Int} (pcT : Nat) (hd : decode c.code pc = .ok (.ifnull o, 3)) (ho : 0 ≤ (pc : Int) + o) (hp : ((pc : Int) + o).toNat = pcT) (K : Wp p e s below Q kc ks (T.setTop (mkF m pcT Ls st))) : Wp p e s below Q kc ks (T.setTop (mkF m pc Ls (.null :: st))) :=
  Wp.step (fun _ k => XS.ifnullYes X.here hx rfl rfl hd rfl ho hp k) K
theorem W.nullR (X : Stand p l e R s m args below meth c T locs cells slots) (hx : p.tables.exec = Jvm.exec) {o : Int} {b : Addr} (pc' : Nat) (hd : decode c.code pc = .ok (.ifnull o, 3)) (hp : pc + 3 = pc') (K : Wp p e s below Q kc ks (T.setTop (mkF m pc' Ls st))) : Wp p e s below Q kc ks (T.setTop (mkF m pc Ls (.ref b :: st))) := by
  subst hp; exact Wp.step (fun _ k => XS.ifnullNo X.here hx rfl hd rfl k) K
theorem W.acmpE (X : Stand p l e R s m args below meth c T locs cells slots) (hx : p.tables.exec = Jvm.exec) {o : Int} {x y : Value} (pcT pcF : Nat) (h1 : x.isRef = true) (h2 : y.isRef = true) (hd : decode c.code pc = .ok (.if_acmp .eq o, 3)) (ho : 0 ≤ (pc : Int) + o) (hp : ((pc : Int) + o).toNat = pcT) (hq : pc + 3 = pcF) (KT : x = y → Wp p e s below Q kc ks (T.setTop (mkF m pcT Ls st))) (KF : ¬ x = y → Wp p e s below Q kc ks (T.setTop (mkF m pcF Ls st))) : Wp p e s below Q kc ks (T.setTop (mkF m pc Ls (y :: x :: st))) := by
  by_cases q : x = y
  · exact Wp.step (fun _ k => acmp X hx (g := mkF m pc Ls (y :: x :: st)) rfl h1 h2 rfl hd rfl (same := true) (by simp [q]) ho (pc' := pcT) (by simp [acV, hp]) k) (KT q)
  · exact Wp.step (fun _ k => acmp X hx (g := mkF m pc Ls (y :: x :: st)) rfl h1 h2 rfl hd rfl (same := false) (by simp [q]) ho (pc' := pcF) (by simp [acV, hq]) k) (KF q)
theorem W.acmpN (X : Stand p l e R s m args below meth c T locs cells slots) (hx : p.tables.exec = Jvm.exec) {o : Int} {x y : Value} (pcT pcF : Nat) (h1 : x.isRef = true) (h2 : y.isRef = true) (hd : decode c.code pc = .ok (.if_acmp .ne o, 3)) (ho : 0 ≤ (pc : Int) + o) (hp : ((pc : Int) + o).toNat = pcT) (hq : pc + 3 = pcF) (KT : ¬ x = y → Wp p e s below Q kc ks (T.setTop (mkF m pcT Ls st))) (KF : x = y → Wp p e s below Q kc ks (T.setTop (mkF m pcF Ls st))) : Wp p e s below Q kc ks (T.setTop (mkF m pc Ls (y :: x :: st))) := by
  by_cases q : x = y
  · exact Wp.step (fun _ k => acmp X hx (g := mkF m pc Ls (y :: x :: st)) rfl h1 h2 rfl hd rfl (same := true) (by simp [q]) ho (pc' := pcF) (by simp [acV, hq]) k) (KF q)
  · exact Wp.step (fun _ k => acmp X hx (g := mkF m pc Ls (y :: x :: st)) rfl h1 h2 rfl hd rfl (same := false) (by simp [q]) ho (pc' := pcT) (by simp [acV, hp]) k) (KT q)
theorem W.newarr (X : Stand p l e R s m args below meth c T locs cells slots) (hx : p.tables.exec = Jvm.exec) (hZ : Z.Warmed39 s.vm) {aty : ArrayType} {z : Int32} (pc' : Nat) (k cap : Nat) (w : (Jvm.Cond.arrayClass (newarray.typeOf aty)).before a0 Z = true) (eT : T.heap = h) (hd : decode c.code pc = .ok (.newarray aty, 2)) (hz : z.toInt = (k : Int)) (hcap : k ≤ cap) (hb : cap * 8 ≤ 536870912) (hc : cells + 1 ≤ R.cells) (hl : slots + cap ≤ R.slots) (hp : pc + 2 = pc')
    (K : ∀ T' h' a, a = h.size → Stand p l e R s m args below meth c T' locs (cells + 1) (slots + cap) → T'.heap = h' → Ext h h' → IArr Z h' a (newarray.typeOf aty) k (fun _ => defaultValue (newarray.typeOf aty)) → Wp p e s below Q kc ks (T'.setTop (mkF m pc' Ls (.ref a :: st)))) : Wp p e s below Q kc ks (T.setTop (mkF m pc Ls (.int z :: st))) := by
  subst hp
  obtain ⟨q1, q2⟩ := nat_of hz
  obtain ⟨T', h', cA, X', e', E, A, stp⟩ := newP X hx hZ w eT (g := mkF m pc Ls (.int z :: st)) rfl hd rfl q1 (cap := cap) (by omega) hb hc hl
  exact Wp.step stp (K T' h' _ rfl X' e' E (IArr.fresh A q2))
theorem IArr.inb {j : Int32} {i : Nat} {cl : Cell} (S : cl.slots.size = n) (hj : j.toInt = (i : Int)) (hi : i < n) : ¬ (j < 0 ∨ cl.slots.size ≤ j.toNatClampNeg) := by
  obtain ⟨q1, q2⟩ := nat_of hj
  rw [S, q2]; intro q; rcases q with q | q
  · exact q1 q
  · omega
theorem W.arrlen (X : Stand p l e R s m args below meth c T locs cells slots) (hx : p.tables.exec = Jvm.exec) (hZ : Z.Warmed39 s.vm) (pc' : Nat) (eT : T.heap = h) (A : IArr Z h a ty n f) (v : Int32) (hv : n.toInt32 = v) (hd : decode c.code pc = .ok (.arraylength, 1)) (hp : pc + 1 = pc') (K : Wp p e s below Q kc ks (T.setTop (mkF m pc' Ls (.int v :: st)))) : Wp p e s below Q kc ks (T.setTop (mkF m pc Ls (.ref a :: st))) := by
  subst hp hv
  obtain ⟨cl, A, S, H⟩ := A
  subst S
  exact Wp.step (fun t k => X.arraylength hx (by rw [eT]; exact A.1) (State.isArrayOf_alike hZ.alike A.2.1) (g := mkF m pc Ls (.ref a :: st)) rfl rfl hd t k) K
theorem W.iaload (X : Stand p l e R s m args below meth c T locs cells slots) (hx : p.tables.exec = Jvm.exec) (hZ : Z.Warmed39 s.vm) {j : Int32} (pc' : Nat) (i : Nat) (v : Value) (eT : T.heap = h) (A : IArr Z h a .int n f) (hj : j.toInt = (i : Int)) (hi : i < n) (hv : f i = v) (hd : decode c.code pc = .ok (.iaload, 1)) (hp : pc + 1 = pc') (K : Wp p e s below Q kc ks (T.setTop (mkF m pc' Ls (v :: st)))) : Wp p e s below Q kc ks (T.setTop (mkF m pc Ls (.int j :: .ref a :: st))) := by
  subst hp hv
  obtain ⟨cl, A, S, H⟩ := A
  exact Wp.step (fun t k => X.iaload hx (by rw [eT]; exact A.1) (State.isArrayOf_alike hZ.alike A.2.1) A.2.2 (IArr.inb S hj hi) (by rw [(nat_of hj).2]; exact H i hi) (g := mkF m pc Ls (.int j :: .ref a :: st)) rfl rfl hd t k) K
theorem W.laload (X : Stand p l e R s m args below meth c T locs cells slots) (hx : p.tables.exec = Jvm.exec) (hZ : Z.Warmed39 s.vm) {j : Int32} (pc' : Nat) (i : Nat) (v : Value) (eT : T.heap = h) (A : IArr Z h a .long n f) (hj : j.toInt = (i : Int)) (hi : i < n) (hv : f i = v) (hd : decode c.code pc = .ok (.laload, 1)) (hp : pc + 1 = pc') (K : Wp p e s below Q kc ks (T.setTop (mkF m pc' Ls (v :: st)))) : Wp p e s below Q kc ks (T.setTop (mkF m pc Ls (.int j :: .ref a :: st))) := by
  subst hp hv
  obtain ⟨cl, A, S, H⟩ := A
  exact Wp.step (fun t k => X.laload hx (by rw [eT]; exact A.1) (State.isArrayOf_alike hZ.alike A.2.1) A.2.2 (IArr.inb S hj hi) (by rw [(nat_of hj).2]; exact H i hi) (g := mkF m pc Ls (.int j :: .ref a :: st)) rfl rfl hd t k) K
theorem W.caload (X : Stand p l e R s m args below meth c T locs cells slots) (hx : p.tables.exec = Jvm.exec) (hZ : Z.Warmed39 s.vm) {j : Int32} (pc' : Nat) (i : Nat) (v : Value) (eT : T.heap = h) (A : IArr Z h a .char n f) (hj : j.toInt = (i : Int)) (hi : i < n) (hv : f i = v) (hd : decode c.code pc = .ok (.caload, 1)) (hp : pc + 1 = pc') (K : Wp p e s below Q kc ks (T.setTop (mkF m pc' Ls (v :: st)))) : Wp p e s below Q kc ks (T.setTop (mkF m pc Ls (.int j :: .ref a :: st))) := by
  subst hp hv
  obtain ⟨cl, A, S, H⟩ := A
  exact Wp.step (fun t k => X.caload hx (by rw [eT]; exact A.1) (State.isArrayOf_alike hZ.alike A.2.1) A.2.2 (IArr.inb S hj hi) (by rw [(nat_of hj).2]; exact H i hi) (g := mkF m pc Ls (.int j :: .ref a :: st)) rfl rfl hd t k) K
theorem W.baload (X : Stand p l e R s m args below meth c T locs cells slots) (hx : p.tables.exec = Jvm.exec) (hZ : Z.Warmed39 s.vm) {j : Int32} (pc' : Nat) (i : Nat) (v : Value) (eT : T.heap = h) (A : IArr Z h a .byte n f) (hj : j.toInt = (i : Int)) (hi : i < n) (hv : f i = v) (hd : decode c.code pc = .ok (.baload, 1)) (hp : pc + 1 = pc') (K : Wp p e s below Q kc ks (T.setTop (mkF m pc' Ls (v :: st)))) : Wp p e s below Q kc ks (T.setTop (mkF m pc Ls (.int j :: .ref a :: st))) := by
  subst hp hv
  obtain ⟨cl, A, S, H⟩ := A
  exact Wp.step (fun t k => X.baloadBytes hx (by rw [eT]; exact A.1) (State.isArrayOf_alike hZ.alike A.2.1) A.2.2 (IArr.inb S hj hi) (by rw [(nat_of hj).2]; exact H i hi) (g := mkF m pc Ls (.int j :: .ref a :: st)) rfl rfl hd t k) K
theorem W.zaload (X : Stand p l e R s m args below meth c T locs cells slots) (hx : p.tables.exec = Jvm.exec) (hZ : Z.Warmed39 s.vm) {j : Int32} (pc' : Nat) (i : Nat) (v : Value) (eT : T.heap = h) (A : IArr Z h a .boolean n f) (hj : j.toInt = (i : Int)) (hi : i < n) (hv : f i = v) (hd : decode c.code pc = .ok (.baload, 1)) (hp : pc + 1 = pc') (K : Wp p e s below Q kc ks (T.setTop (mkF m pc' Ls (v :: st)))) : Wp p e s below Q kc ks (T.setTop (mkF m pc Ls (.int j :: .ref a :: st))) := by
  subst hp hv
  obtain ⟨cl, A, S, H⟩ := A
  exact Wp.step (fun t k => X.baloadBooleans hx (by rw [eT]; exact A.1) (State.isArrayOf_alike hZ.alike A.2.1) A.2.2 (IArr.inb S hj hi) (by rw [(nat_of hj).2]; exact H i hi) (g := mkF m pc Ls (.int j :: .ref a :: st)) rfl rfl hd t k) K
theorem W.aaload (X : Stand p l e R s m args below meth c T locs cells slots) (hx : p.tables.exec = Jvm.exec) (hZ : Z.Warmed39 s.vm) {j : Int32} (pc' : Nat) (i : Nat) (v : Value) (eT : T.heap = h) (A : IArr Z h a ty n f) (hty : ty.isReference = true) (hj : j.toInt = (i : Int)) (hi : i < n) (hv : f i = v) (hd : decode c.code pc = .ok (.aaload, 1)) (hp : pc + 1 = pc') (K : Wp p e s below Q kc ks (T.setTop (mkF m pc' Ls (v :: st)))) : Wp p e s below Q kc ks (T.setTop (mkF m pc Ls (.int j :: .ref a :: st))) := by
  subst hp hv
  obtain ⟨cl, A, S, H⟩ := A
  exact Wp.step (fun t k => X.aaload hx (by rw [eT]; exact A.1) (State.isArrayOf_alike hZ.alike A.2.1) hty A.2.2 (IArr.inb S hj hi) (by rw [(nat_of hj).2]; exact H i hi) (g := mkF m pc Ls (.int j :: .ref a :: st)) rfl rfl hd t k) K
theorem W.iastore (X : Stand p l e R s m args below meth c T locs cells slots) (hx : p.tables.exec = Jvm.exec) (hZ : Z.Warmed39 s.vm) {j : Int32} {x : Int32} (pc' : Nat) (i : Nat) (eT : T.heap = h) (A : IArr Z h a .int n f) (hj : j.toInt = (i : Int)) (hi : i < n) (hd : decode c.code pc = .ok (.iastore, 1)) (hp : pc + 1 = pc')
    (K : ∀ T' h', Stand p l e R s m args below meth c T' (locs ++ [⟨a, i⟩]) cells slots → T'.heap = h' → Wr h h' a i (.int x) → IArr Z h' a .int n (upd f i (.int x)) → Wp p e s below Q kc ks (T'.setTop (mkF m pc' Ls st))) : Wp p e s below Q kc ks (T.setTop (mkF m pc Ls (.int x :: .int j :: .ref a :: st))) := by
  subst hp
  obtain ⟨cl, A0, S, H⟩ := A
  obtain ⟨T', h', X', e', W, stp⟩ := stI X hx hZ eT A0 (IArr.inb S hj hi) (g := mkF m pc Ls (.int x :: .int j :: .ref a :: st)) rfl rfl hd
  rw [(nat_of hj).2] at X' W
  exact Wp.step stp (K T' h' X' e' W (IArr.same ⟨cl, A0, S, H⟩ W))
theorem W.lastore (X : Stand p l e R s m args below meth c T locs cells slots) (hx : p.tables.exec = Jvm.exec) (hZ : Z.Warmed39 s.vm) {j : Int32} {x : Int64} (pc' : Nat) (i : Nat) (eT : T.heap = h) (A : IArr Z h a .long n f) (hj : j.toInt = (i : Int)) (hi : i < n) (hd : decode c.code pc = .ok (.lastore, 1)) (hp : pc + 1 = pc')
    (K : ∀ T' h', Stand p l e R s m args below meth c T' (locs ++ [⟨a, i⟩]) cells slots → T'.heap = h' → Wr h h' a i (.long x) → IArr Z h' a .long n (upd f i (.long x)) → Wp p e s below Q kc ks (T'.setTop (mkF m pc' Ls st))) : Wp p e s below Q kc ks (T.setTop (mkF m pc Ls (.long x :: .int j :: .ref a :: st))) := by
  subst hp
  obtain ⟨cl, A0, S, H⟩ := A
  obtain ⟨T', h', X', e', W, stp⟩ := stJ X hx hZ eT A0 (IArr.inb S hj hi) (g := mkF m pc Ls (.long x :: .int j :: .ref a :: st)) rfl rfl hd
  rw [(nat_of hj).2] at X' W
  exact Wp.step stp (K T' h' X' e' W (IArr.same ⟨cl, A0, S, H⟩ W))
theorem W.castore (X : Stand p l e R s m args below meth c T locs cells slots) (hx : p.tables.exec = Jvm.exec) (hZ : Z.Warmed39 s.vm) {j : Int32} {x : Int32} (pc' : Nat) (i : Nat) (eT : T.heap = h) (A : IArr Z h a .char n f) (hj : j.toInt = (i : Int)) (hi : i < n) (hd : decode c.code pc = .ok (.castore, 1)) (hp : pc + 1 = pc')
    (K : ∀ T' h', Stand p l e R s m args below meth c T' (locs ++ [⟨a, i⟩]) cells slots → T'.heap = h' → Wr h h' a i (.int (nar .char x)) → IArr Z h' a .char n (upd f i (.int (nar .char x))) → Wp p e s below Q kc ks (T'.setTop (mkF m pc' Ls st))) : Wp p e s below Q kc ks (T.setTop (mkF m pc Ls (.int x :: .int j :: .ref a :: st))) := by
  subst hp
  obtain ⟨cl, A0, S, H⟩ := A
  obtain ⟨T', h', X', e', W, stp⟩ := stC X hx hZ eT A0 (IArr.inb S hj hi) (g := mkF m pc Ls (.int x :: .int j :: .ref a :: st)) rfl rfl hd
  rw [(nat_of hj).2] at X' W
  exact Wp.step stp (K T' h' X' e' W (IArr.same ⟨cl, A0, S, H⟩ W))
theorem W.bastore (X : Stand p l e R s m args below meth c T locs cells slots) (hx : p.tables.exec = Jvm.exec) (hZ : Z.Warmed39 s.vm) {j : Int32} {x : Int32} (pc' : Nat) (i : Nat) (eT : T.heap = h) (A : IArr Z h a .byte n f) (hj : j.toInt = (i : Int)) (hi : i < n) (hd : decode c.code pc = .ok (.bastore, 1)) (hp : pc + 1 = pc')
    (K : ∀ T' h', Stand p l e R s m args below meth c T' (locs ++ [⟨a, i⟩]) cells slots → T'.heap = h' → Wr h h' a i (.int (nar .byte x)) → IArr Z h' a .byte n (upd f i (.int (nar .byte x))) → Wp p e s below Q kc ks (T'.setTop (mkF m pc' Ls st))) : Wp p e s below Q kc ks (T.setTop (mkF m pc Ls (.int x :: .int j :: .ref a :: st))) := by
  subst hp
  obtain ⟨cl, A0, S, H⟩ := A
  obtain ⟨T', h', X', e', W, stp⟩ := stB X hx hZ eT A0 (IArr.inb S hj hi) (g := mkF m pc Ls (.int x :: .int j :: .ref a :: st)) rfl rfl hd
  rw [(nat_of hj).2] at X' W
  exact Wp.step stp (K T' h' X' e' W (IArr.same ⟨cl, A0, S, H⟩ W))
theorem W.zastore (X : Stand p l e R s m args below meth c T locs cells slots) (hx : p.tables.exec = Jvm.exec) (hZ : Z.Warmed39 s.vm) {j : Int32} {x : Int32} (pc' : Nat) (i : Nat) (eT : T.heap = h) (A : IArr Z h a .boolean n f) (hj : j.toInt = (i : Int)) (hi : i < n) (hd : decode c.code pc = .ok (.bastore, 1)) (hp : pc + 1 = pc')
    (K : ∀ T' h', Stand p l e R s m args below meth c T' (locs ++ [⟨a, i⟩]) cells slots → T'.heap = h' → Wr h h' a i (.int (nar .boolean x)) → IArr Z h' a .boolean n (upd f i (.int (nar .boolean x))) → Wp p e s below Q kc ks (T'.setTop (mkF m pc' Ls st))) : Wp p e s below Q kc ks (T.setTop (mkF m pc Ls (.int x :: .int j :: .ref a :: st))) := by
  subst hp
  obtain ⟨cl, A0, S, H⟩ := A
  obtain ⟨T', h', X', e', W, stp⟩ := stZ X hx hZ eT A0 (IArr.inb S hj hi) (g := mkF m pc Ls (.int x :: .int j :: .ref a :: st)) rfl rfl hd
  rw [(nat_of hj).2] at X' W
  exact Wp.step stp (K T' h' X' e' W (IArr.same ⟨cl, A0, S, H⟩ W))
theorem W.getS (X : Stand p l e R s m args below meth c T locs cells slots) (hx : p.tables.exec = Jvm.exec) (hZ : Z.Warmed39 s.vm) {own R0 O nm d : String} {index : Nat} {v : Value} (pc' : Nat) (hown : s.vm.findClass own = some m.cls) (w : (Jvm.Cond.fieldLink own index R0 nm d).before a0 Z = true) (via : Via Z R0 O nm d) (eT : T.heap = h) (F : Sta Z h O nm d v) (hd : decode c.code pc = .ok (.getstatic index, 3)) (hp : pc + 3 = pc')
    (K : ∀ T', Stand p l e R s m args below meth c T' locs cells slots → T'.heap = h → Wp p e s below Q kc ks (T'.setTop (mkF m pc' Ls (v :: st)))) : Wp p e s below Q kc ks (T.setTop (mkF m pc Ls st)) := by
  subst hp
  obtain ⟨T', X', e', stp⟩ := Jvm.RoadKit.getS X hx hZ (host := "") hown w via eT F (g := mkF m pc Ls st) rfl hd
  exact Wp.step stp (K T' X' e')
theorem W.getF (X : Stand p l e R s m args below meth c T locs cells slots) (hx : p.tables.exec = Jvm.exec) (hZ : Z.Warmed39 s.vm) {own R0 O nm d : String} {index : Nat} {v : Value} (pc' : Nat) (hown : s.vm.findClass own = some m.cls) (w : (Jvm.Cond.fieldLink own index R0 nm d).before a0 Z = true) (via : Via Z R0 O nm d) (eT : T.heap = h) (F : Fld Z h a O nm d v) (hd : decode c.code pc = .ok (.getfield index, 3)) (hp : pc + 3 = pc')
    (K : ∀ T', Stand p l e R s m args below meth c T' locs cells slots → T'.heap = h → Wp p e s below Q kc ks (T'.setTop (mkF m pc' Ls (v :: st)))) : Wp p e s below Q kc ks (T.setTop (mkF m pc Ls (.ref a :: st))) := by
  subst hp
  obtain ⟨T', X', e', stp⟩ := Jvm.RoadKit.getF X hx hZ (host := "") hown (Or.inl w) via eT F (g := mkF m pc Ls (.ref a :: st)) rfl rfl hd
  exact Wp.step stp (K T' X' e')
theorem W.putF (X : Stand p l e R s m args below meth c T locs cells slots) (hx : p.tables.exec = Jvm.exec) (hZ : Z.Warmed39 s.vm) {own R0 O nm d C : String} {index kk : Nat} {v old : Value} {ty : FieldType} (pc' : Nat) (hown : s.vm.findClass own = some m.cls) (w : (Jvm.Cond.fieldLink own index R0 nm d).before a0 Z = true) (via : Via Z R0 O nm d) (eT : T.heap = h) (F : Fld Z h a O nm d old) (E : Exa Z h a C) (L : (Jvm.Cond.lays C O nm d).before a0 Z = true ∨ ((Jvm.Cond.laysFinal C O nm d).before a0 Z = true ∧ own = O ∧ meth.name = "<init>")) (wi : (Jvm.Cond.instantiable C kk).before a0 Z = true)
    (hty : parseFieldDescriptor d = some ty) (hn : narrow ty v = v) (hf : fits ty v = true) (hd : decode c.code pc = .ok (.putfield index, 3)) (hp : pc + 3 = pc')
    (K : ∀ T' h', Stand p l e R s m args below meth c T' (locs ++ [⟨a, Jvm.RoadKit.slotOf Z O nm d⟩]) cells slots → T'.heap = h' → Wr h h' a (Jvm.RoadKit.slotOf Z O nm d) v → Fld Z h' a O nm d v → Wp p e s below Q kc ks (T'.setTop (mkF m pc' Ls st))) : Wp p e s below Q kc ks (T.setTop (mkF m pc Ls (v :: .ref a :: st))) := by
  subst hp
  obtain ⟨T', h', X', e', W, stp⟩ := Jvm.RoadKit.putF X hx hZ hown (host := "") (Or.inl w) via eT F E L wi hty hn hf (g := mkF m pc Ls (v :: .ref a :: st)) rfl rfl hd
  exact Wp.step stp (K T' h' X' e' W (F.same W))
theorem W.newO (X : Stand p l e R s m args below meth c T locs cells slots) (hx : p.tables.exec = Jvm.exec) (hZ : Z.Warmed39 s.vm) {own C : String} {index k : Nat} (pc' : Nat) (hown : s.vm.findClass own = some m.cls) (w : (Jvm.Cond.classLink own index C).before a0 Z = true) (wi : (Jvm.Cond.instantiable C k).before a0 Z = true) (wz : (Jvm.Cond.initialized C).before a0 Z = true) (eT : T.heap = h) (hd : decode c.code pc = .ok (.new index, 3)) (hc : cells + 1 ≤ R.cells) (hl : slots + k ≤ R.slots) (hp : pc + 3 = pc')
    (K : ∀ T' h' a, a = h.size → Stand p l e R s m args below meth c T' locs (cells + 1) (slots + k) → T'.heap = h' → Ext h h' → Exa Z h' a C → (∀ {O nm d : String} {ty : FieldType}, Laid Z a0 C O nm d → parseFieldDescriptor d = some ty → Fld Z h' a O nm d (defaultValue ty)) → Wp p e s below Q kc ks (T'.setTop (mkF m pc' Ls (.ref a :: st)))) : Wp p e s below Q kc ks (T.setTop (mkF m pc Ls st)) := by
  subst hp
  obtain ⟨T', h', X', e', E, A, D, -, stp⟩ := Jvm.RoadKit.newO X hx hZ hown w wi wz eT (g := mkF m pc Ls st) rfl hd hc hl
  exact Wp.step stp (K T' h' _ rfl X' e' E A D)
theorem W.initO (X : Stand p l e R s m args below meth c T locs cells slots) (hx : p.tables.exec = Jvm.exec) (hZ : Z.Warmed39 s.vm) {own : String} {idx : Nat} (pc' W : Nat) (hown : s.vm.findClass own = some m.cls) (w1 : (Jvm.Cond.methodLink own idx Lib.objectInit).before a0 Z = true) (w2 : (Jvm.Cond.instanceMethod Lib.objectInit).before a0 Z = true) (w3 : (Jvm.Cond.code Lib.objectInit ⟨#[0xb1]⟩ 1 none).before a0 Z = true) (eT : T.heap = h) (hsz : Ls.size = c.maxLocals) (hd : decode c.code pc = .ok (.invokespecial idx, 3)) (hf : 1 ≤ R.frames) (hW : (st.map fun v => v.category).sum = W) (hl : W + 12 ≤ R.locals) (hp : pc + 3 = pc')
    (K : ∀ T', Stand p l e R s m args below meth c T' locs cells slots → T'.heap = h → Wp p e s below Q kc ks (T'.setTop (mkF m pc' Ls st))) : Wp p e s below Q kc ks (T.setTop (mkF m pc Ls (.ref a :: st))) := by
  subst hp
  obtain ⟨T', X', e', stp⟩ := Jvm.RoadKit.initO X hx hZ hown w1 w2 w3 eT (g := mkF m pc Ls (.ref a :: st)) rfl hsz rfl hd hf (W := W) (by show 2 * 0 + _ ≤ _; omega) hl
  exact Wp.step stp (K T' X' e')
/-! calls -/
theorem W.callS (X : Stand p l e R s m args below meth c T locs cells slots) (hx : p.tables.exec = Jvm.exec) (hZ : Z.Warmed39 s.vm) {own : String} {index : Nat} {y : MethodName} {bytes : ByteArray} {maxL : Nat} {ret : Option FieldType} {rm : Room} {Qc : Option Value → Heap → List Loc → Prop} {ps : List FieldType} {r : Option FieldType} {stk : List Value} (pc' W : Nat) (argsL : List Value)
    (hown : s.vm.findClass own = some m.cls) (w1 : (Jvm.Cond.methodLink own index y).before a0 Z = true) (w2 : (Jvm.Cond.static y).before a0 Z = true) (w3 : (Jvm.Cond.initialized y.cls).before a0 Z = true) (w4 : (Jvm.Cond.code y bytes maxL ret).before a0 Z = true) (hy : y.cls ≠ "java/lang/invoke/MethodHandle" ∧ y.cls ≠ "java/lang/invoke/VarHandle")
    (hpd : parseMethodDescriptor y.desc = some ⟨ps, r⟩) (hlen : argsL.length = ps.length) (eT : T.heap = h) (hM : Con l Z y bytes maxL ret [] rm argsL.toArray h Qc) (hd : decode c.code pc = .ok (.invokestatic index, 3)) (hsz : Ls.size = c.maxLocals) (hstk : stk = argsL.reverse ++ rest) (hW : (rest.map fun v => v.category).sum = W)
    (hf : rm.frames + 1 ≤ R.frames) (hl : W + (maxL + 11) + rm.locals ≤ R.locals) (hc : cells + rm.cells ≤ R.cells) (hsl : slots + rm.slots ≤ R.slots) (hp : pc + 3 = pc')
    (K : ∀ v T' L, Stand p l e R s m args below meth c T' (locs ++ L) (cells + rm.cells) (slots + rm.slots) → Qc v T'.heap L → Wp p e s below Q kc ks (T'.setTop (mkF m pc' Ls (v.toList ++ rest)))) : Wp p e s below Q kc ks (T.setTop (mkF m pc Ls stk)) := by
  subst hp hstk
  obtain ⟨v, vm₁, ⟨T', L', k', n'⟩, -, X', ⟨Lc, hQ, l1, l2, l3⟩, stp⟩ := Jvm.LawKit.callS X hx (y := y) hown (mvT hZ w1) (mvT hZ w2) (mvT hZ w3) (mvT hZ w4) hy (backOf (W := W) hM hZ w4 w3 hf hl) (g := mkF m pc Ls (argsL.reverse ++ rest)) rfl hsz (argsL := argsL) (rest := rest) (lenOf hpd hlen) rfl (by show 2 * 0 + _ ≤ _; omega) hd (fun _ _ => ⟨rfl, eT, hc, hsl⟩)
  dsimp only [Pt.U, Pt.locs, Pt.cells, Pt.slots] at X' l1 l2 l3 stp hQ
  subst l1 l2 l3
  exact Wp.step stp (K v T' Lc X' hQ)
theorem W.callI (X : Stand p l e R s m args below meth c T locs cells slots) (hx : p.tables.exec = Jvm.exec) (hZ : Z.Warmed39 s.vm) {own : String} {index : Nat} {y : MethodName} {bytes : ByteArray} {maxL : Nat} {rm : Room} {Qc : Option Value → Heap → List Loc → Prop} {ps : List FieldType} {r : Option FieldType} {stk : List Value} (pc' W : Nat) (b : Addr) (argsL : List Value) (hy1 : y.name = "<init>")
    (hown : s.vm.findClass own = some m.cls) (w1 : (Jvm.Cond.methodLink own index y).before a0 Z = true) (w2 : (Jvm.Cond.instanceMethod y).before a0 Z = true) (w3 : (Jvm.Cond.initialized y.cls).before a0 Z = true) (w4 : (Jvm.Cond.code y bytes maxL none).before a0 Z = true) (hy : y.cls ≠ "java/lang/invoke/MethodHandle" ∧ y.cls ≠ "java/lang/invoke/VarHandle")
    (hpd : parseMethodDescriptor y.desc = some ⟨ps, r⟩) (hlen : argsL.length = ps.length) (eT : T.heap = h) (hM : Con l Z y bytes maxL none [] rm (.ref b :: argsL).toArray h Qc) (hd : decode c.code pc = .ok (.invokespecial index, 3)) (hsz : Ls.size = c.maxLocals) (hstk : stk = argsL.reverse ++ .ref b :: rest) (hW : (rest.map fun v => v.category).sum = W)
    (hf : rm.frames + 1 ≤ R.frames) (hl : W + (maxL + 11) + rm.locals ≤ R.locals) (hc : cells + rm.cells ≤ R.cells) (hsl : slots + rm.slots ≤ R.slots) (hp : pc + 3 = pc')
    (K : ∀ v T' L, Stand p l e R s m args below meth c T' (locs ++ L) (cells + rm.cells) (slots + rm.slots) → Qc v T'.heap L → Wp p e s below Q kc ks (T'.setTop (mkF m pc' Ls (v.toList ++ rest)))) : Wp p e s below Q kc ks (T.setTop (mkF m pc Ls stk)) := by
  subst hp hstk
  obtain ⟨v, vm₁, ⟨T', L', k', n'⟩, -, X', ⟨Lc, hQ, l1, l2, l3⟩, stp⟩ := X.specialBack hx (y := y) hy1 hown (mvT hZ w1) (mvT hZ w2) (mvT hZ w4) hy (backOf (W := W) hM hZ w4 w3 hf hl) (g := mkF m pc Ls (argsL.reverse ++ .ref b :: rest)) rfl hsz (Steps.refl _) (a := b) (argsL := argsL) (rest := rest) (lenOf hpd hlen) rfl (by show 2 * 0 + _ ≤ _; omega) hd (fun _ _ => ⟨rfl, eT, hc, hsl⟩)
  dsimp only [Pt.U, Pt.locs, Pt.cells, Pt.slots] at X' l1 l2 l3 stp hQ
  subst l1 l2 l3
  exact Wp.chain stp (K v T' Lc X' hQ)
theorem W.callV (X : Stand p l e R s m args below meth c T locs cells slots) (hx : p.tables.exec = Jvm.exec) (hZ : Z.Warmed39 s.vm) {own C : String} {index : Nat} {y : MethodName} {bytes : ByteArray} {maxL : Nat} {ret : Option FieldType} {rm : Room} {Qc : Option Value → Heap → List Loc → Prop} {ps : List FieldType} {r : Option FieldType} {stk : List Value} (pc' W : Nat) (b : Addr) (argsL : List Value)
    (hown : s.vm.findClass own = some m.cls) (w1 : (Jvm.Cond.methodLink own index y).before a0 Z = true) (w2 : (Jvm.Cond.declares y).before a0 Z = true) (w5 : (Jvm.Cond.selects C y y).before a0 Z = true) (w6 : (Jvm.Cond.instanceMethod y).before a0 Z = true) (w3 : (Jvm.Cond.initialized y.cls).before a0 Z = true) (w4 : (Jvm.Cond.code y bytes maxL ret).before a0 Z = true) (hy : y.cls ≠ "java/lang/invoke/MethodHandle" ∧ y.cls ≠ "java/lang/invoke/VarHandle")
    (hpd : parseMethodDescriptor y.desc = some ⟨ps, r⟩) (hlen : argsL.length = ps.length) (eT : T.heap = h) (E : Exa Z h b C) (hM : Con l Z y bytes maxL ret [] rm (.ref b :: argsL).toArray h Qc) (hd : decode c.code pc = .ok (.invokevirtual index, 3)) (hsz : Ls.size = c.maxLocals) (hstk : stk = argsL.reverse ++ .ref b :: rest) (hW : (rest.map fun v => v.category).sum = W)
    (hf : rm.frames + 1 ≤ R.frames) (hl : W + (maxL + 11) + rm.locals ≤ R.locals) (hc : cells + rm.cells ≤ R.cells) (hsl : slots + rm.slots ≤ R.slots) (hp : pc + 3 = pc')
    (K : ∀ v T' L, Stand p l e R s m args below meth c T' (locs ++ L) (cells + rm.cells) (slots + rm.slots) → Qc v T'.heap L → Wp p e s below Q kc ks (T'.setTop (mkF m pc' Ls (v.toList ++ rest)))) : Wp p e s below Q kc ks (T.setTop (mkF m pc Ls stk)) := by
  subst hp hstk
  obtain ⟨cq, kq, qa, qb, qc⟩ := isOf hZ eT E
  obtain ⟨v, vm₁, ⟨T', L', k', n'⟩, -, X', ⟨Lc, hQ, l1, l2, l3⟩, stp⟩ := X.virtualBack hx (y := y) (z := y) hown (mvT hZ w1) (mvT hZ w2) (notFace_of_selects (args := args) (mvT hZ w5)) (mvT hZ w5) (mvT hZ w6) hy (backOf (W := W) hM hZ w4 w3 hf hl) qa qc (g := mkF m pc Ls (argsL.reverse ++ .ref b :: rest)) rfl hsz (Steps.refl _) (argsL := argsL) (rest := rest) (lenOf hpd hlen) rfl (by show 2 * 0 + _ ≤ _; omega) hd (fun _ _ => ⟨rfl, eT, hc, hsl⟩)
  dsimp only [Pt.U, Pt.locs, Pt.cells, Pt.slots] at X' l1 l2 l3 stp hQ
  subst l1 l2 l3
  exact Wp.chain stp (K v T' Lc X' hQ)
theorem ext_refl (h : Heap) : Ext h h := ⟨Nat.le_refl _, fun _ _ q => q⟩
theorem ext_trans {h1 h2 h3 : Heap} (E : Ext h1 h2) (E' : Ext h2 h3) : Ext h1 h3 := ⟨Nat.le_trans E.1 E'.1, fun a c q => E'.2 a c (E.2 a c q)⟩
theorem ext_wr {h0 : Heap} {sl : Nat} {v : Value} (E : Ext h0 h) (W : Wr h h' a sl v) (q : h0.size ≤ a) : Ext h0 h' := by
  refine ⟨by rw [W.size]; exact E.1, fun x cx hx => ?_⟩
  obtain ⟨c', e1, -, -, -, e5, -⟩ := wr_at W (E.2 x cx hx)
  rw [e1, e5 (fun z => by subst z; exact absurd (Array.getElem?_eq_some_iff.mp hx).1 (Nat.not_lt.mpr q))]
theorem ext_keep {h0 : Heap} {ws : List Addr} (E : Ext h0 h) (K : Keep h h' ws) (q : ∀ x ∈ ws, h0.size ≤ x) : Ext h0 h' :=
  ⟨Nat.le_trans E.1 K.1, fun x cx hx => K.2.1 x cx (E.2 x cx hx) fun z => absurd (Array.getElem?_eq_some_iff.mp hx).1 (Nat.not_lt.mpr (q x z))⟩
/-! switches -/
theorem W.lswHit (X : Stand p l e R s m args below meth c T locs cells slots) (hx : p.tables.exec = Jvm.exec) {k : Int32} {dflt : Int} {pairs : Array (Int × Int)} {len : Nat} (pc' : Nat) (y off : Int) (hd : decode c.code pc = .ok (.lookupswitch dflt pairs, len)) (hso : (pairs.toList.zip (pairs.toList.drop 1)).all (fun (a, next) => a.1 < next.1) = true) (hf : pairs.find? (·.1 == k.toInt) = some (y, off)) (ho : 0 ≤ (pc : Int) + off) (hp : ((pc : Int) + off).toNat = pc') (K : Wp p e s below Q kc ks (T.setTop (mkF m pc' Ls st))) : Wp p e s below Q kc ks (T.setTop (mkF m pc Ls (.int k :: st))) := by
  subst hp; exact Wp.step (fun t q => X.lookupswitchHit hx (g := mkF m pc Ls (.int k :: st)) rfl rfl hd hso hf ho t q) K
theorem W.lswMiss (X : Stand p l e R s m args below meth c T locs cells slots) (hx : p.tables.exec = Jvm.exec) {k : Int32} {dflt : Int} {pairs : Array (Int × Int)} {len : Nat} (pc' : Nat) (hd : decode c.code pc = .ok (.lookupswitch dflt pairs, len)) (hso : (pairs.toList.zip (pairs.toList.drop 1)).all (fun (a, next) => a.1 < next.1) = true) (hf : pairs.find? (·.1 == k.toInt) = none) (ho : 0 ≤ (pc : Int) + dflt) (hp : ((pc : Int) + dflt).toNat = pc') (K : Wp p e s below Q kc ks (T.setTop (mkF m pc' Ls st))) : Wp p e s below Q kc ks (T.setTop (mkF m pc Ls (.int k :: st))) := by
  subst hp; exact Wp.step (fun t q => X.lookupswitchMiss hx (g := mkF m pc Ls (.int k :: st)) rfl rfl hd hso hf ho t q) K
theorem W.tswIn (X : Stand p l e R s m args below meth c T locs cells slots) (hx : p.tables.exec = Jvm.exec) {k : Int32} {dflt low high : Int} {offs : Array Int} {len : Nat} (pc' : Nat) (off : Int) (hd : decode c.code pc = .ok (.tableswitch dflt low high offs, len)) (hi : ¬ (k.toInt < low ∨ k.toInt > high)) (hf : offs[(k.toInt - low).toNat]? = some off) (ho : 0 ≤ (pc : Int) + off) (hp : ((pc : Int) + off).toNat = pc') (K : Wp p e s below Q kc ks (T.setTop (mkF m pc' Ls st))) : Wp p e s below Q kc ks (T.setTop (mkF m pc Ls (.int k :: st))) := by
  subst hp; exact Wp.step (fun t q => X.tableswitchIn hx (g := mkF m pc Ls (.int k :: st)) rfl rfl hd hi hf ho t q) K
/-! arrays of references -/
def Takes (Z : State) (h : Heap) (a : Addr) (C : String) : Prop := ∃ (c : Cell) (ty : FieldType), Arr Z h a c ty ∧ Ovr Z c.cls C
theorem Takes.lt {C : String} (F : Takes Z h a C) : a < h.size := by obtain ⟨c, ty, A, -⟩ := F; exact A.lt
theorem Takes.ext {C : String} (F : Takes Z h a C) (E : Ext h h') : Takes Z h' a C := by obtain ⟨c, ty, A, O⟩ := F; exact ⟨c, ty, A.ext E, O⟩
theorem Takes.wr {C : String} {sl : Nat} {v : Value} (F : Takes Z h a C) (W : Wr h h' b sl v) : Takes Z h' a C := by
  obtain ⟨c, ty, A, O⟩ := F
  by_cases q : a = b
  · subst q; exact ⟨_, ty, A.same W, O⟩
  · exact ⟨c, ty, A.other W q, O⟩
theorem Takes.sto {C : String} {y : Addr} (F : Takes Z h a C) (I : Ins Z h y C true) : Sto Z h a (.ref y) := by obtain ⟨c, ty, A, O⟩ := F; exact Sto.of A O I
theorem W.newR (X : Stand p l e R s m args below meth c T locs cells slots) (hx : p.tables.exec = Jvm.exec) (hZ : Z.Warmed39 s.vm) {own C : String} {index : Nat} {z : Int32} (pc' : Nat) (k cap : Nat) (hown : s.vm.findClass own = some m.cls) (w1 : (Jvm.Cond.classLink own index C).before a0 Z = true) (w2 : (Jvm.Cond.arrayOver (.object C)).before a0 Z = true) (eT : T.heap = h) (hd : decode c.code pc = .ok (.anewarray index, 3)) (hz : z.toInt = (k : Int)) (hcap : k ≤ cap) (hb : cap * 8 ≤ 536870912) (hc : cells + 1 ≤ R.cells) (hl : slots + cap ≤ R.slots) (hp : pc + 3 = pc')
    (K : ∀ T' h' a, a = h.size → Stand p l e R s m args below meth c T' locs (cells + 1) (slots + cap) → T'.heap = h' → Ext h h' → IArr Z h' a (.object C) k (fun _ => defaultValue (.object C)) → Takes Z h' a C → Wp p e s below Q kc ks (T'.setTop (mkF m pc' Ls (.ref a :: st)))) : Wp p e s below Q kc ks (T.setTop (mkF m pc Ls (.int z :: st))) := by
  subst hp
  obtain ⟨q1, q2⟩ := nat_of hz
  obtain ⟨T', h', cA, X', e', E, A, O, stp⟩ := Jvm.RoadKit.newR X hx hZ hown w1 w2 eT (g := mkF m pc Ls (.int z :: st)) rfl hd rfl q1 (cap := cap) (by omega) hb hc hl
  exact Wp.step stp (K T' h' _ rfl X' e' E (IArr.fresh A q2) ⟨_, _, A, O⟩)
theorem W.aastore (X : Stand p l e R s m args below meth c T locs cells slots) (hx : p.tables.exec = Jvm.exec) (hZ : Z.Warmed39 s.vm) {j : Int32} {v : Value} (pc' : Nat) (i : Nat) (eT : T.heap = h) (A : IArr Z h a ty n f) (hty : ty.isReference = true) (F : Sto Z h a v) (hj : j.toInt = (i : Int)) (hi : i < n) (hd : decode c.code pc = .ok (.aastore, 1)) (hp : pc + 1 = pc')
    (K : ∀ T' h', Stand p l e R s m args below meth c T' (locs ++ [⟨a, i⟩]) cells slots → T'.heap = h' → Wr h h' a i v → IArr Z h' a ty n (upd f i v) → Wp p e s below Q kc ks (T'.setTop (mkF m pc' Ls st))) : Wp p e s below Q kc ks (T.setTop (mkF m pc Ls (v :: .int j :: .ref a :: st))) := by
  subst hp
  obtain ⟨cl, A0, S, H⟩ := A
  obtain ⟨T', h', X', e', W, stp⟩ := stR X hx hZ eT A0 (IArr.inb S hj hi) hty F (g := mkF m pc Ls (v :: .int j :: .ref a :: st)) rfl rfl hd
  rw [(nat_of hj).2] at X' W
  exact Wp.step stp (K T' h' X' e' W (IArr.same ⟨cl, A0, S, H⟩ W))
/-! a virtual call whose method is declared in a superclass -/
theorem W.callU (X : Stand p l e R s m args below meth c T locs cells slots) (hx : p.tables.exec = Jvm.exec) (hZ : Z.Warmed39 s.vm) {own C owner : String} {index : Nat} {y z : MethodName} {bytes : ByteArray} {maxL : Nat} {ret : Option FieldType} {rm : Room} {Qc : Option Value → Heap → List Loc → Prop} {ps : List FieldType} {r : Option FieldType} {stk : List Value} (pc' W : Nat) (b : Addr) (argsL : List Value)
    (hown : s.vm.findClass own = some m.cls) (w1 : (Jvm.Cond.methodLink own index y).before a0 Z = true) (w7 : (Jvm.Cond.sameMethod y.cls owner y.name y.desc).before a0 Z = true) (w2 : (Jvm.Cond.declares ⟨owner, y.name, y.desc⟩).before a0 Z = true) (hy : owner ≠ "java/lang/invoke/MethodHandle" ∧ owner ≠ "java/lang/invoke/VarHandle") (w5 : (Jvm.Cond.selects C y z).before a0 Z = true) (w6 : (Jvm.Cond.instanceMethod z).before a0 Z = true) (w3 : (Jvm.Cond.initialized z.cls).before a0 Z = true) (w4 : (Jvm.Cond.code z bytes maxL ret).before a0 Z = true)
    (hpd : parseMethodDescriptor y.desc = some ⟨ps, r⟩) (hlen : argsL.length = ps.length) (eT : T.heap = h) (E : Exa Z h b C) (hM : Con l Z z bytes maxL ret [] rm (.ref b :: argsL).toArray h Qc) (hd : decode c.code pc = .ok (.invokevirtual index, 3)) (hsz : Ls.size = c.maxLocals) (hstk : stk = argsL.reverse ++ .ref b :: rest) (hW : (rest.map fun v => v.category).sum = W)
    (hf : rm.frames + 1 ≤ R.frames) (hl : W + (maxL + 11) + rm.locals ≤ R.locals) (hc : cells + rm.cells ≤ R.cells) (hsl : slots + rm.slots ≤ R.slots) (hp : pc + 3 = pc')
    (K : ∀ v T' L, Stand p l e R s m args below meth c T' (locs ++ L) (cells + rm.cells) (slots + rm.slots) → Qc v T'.heap L → Wp p e s below Q kc ks (T'.setTop (mkF m pc' Ls (v.toList ++ rest)))) : Wp p e s below Q kc ks (T.setTop (mkF m pc Ls stk)) := by
  subst hp hstk
  obtain ⟨cq, kq, qa, qb, qc⟩ := isOf hZ eT E
  obtain ⟨v, vm₁, ⟨T', L', k', n'⟩, -, X', ⟨Lc, hQ, l1, l2, l3⟩, stp⟩ := X.virtualBackUp hx (x := y) (y := z) (owner := owner) hown (mvT hZ w1) (mvT hZ w7) (mvT hZ w2) hy (mvT hZ w5) (mvT hZ w6) (backOf (W := W) hM hZ w4 w3 hf hl) qa qc (g := mkF m pc Ls (argsL.reverse ++ .ref b :: rest)) rfl hsz (Steps.refl _) (argsL := argsL) (rest := rest) (lenOf hpd hlen) rfl (by show 2 * 0 + _ ≤ _; omega) hd (fun _ _ => ⟨rfl, eT, hc, hsl⟩)
  dsimp only [Pt.U, Pt.locs, Pt.cells, Pt.slots] at X' l1 l2 l3 stp hQ
  subst l1 l2 l3
  exact Wp.chain stp (K v T' Lc X' hQ)
/-! a private instance method -/
theorem W.callP (X : Stand p l e R s m args below meth c T locs cells slots) (hx : p.tables.exec = Jvm.exec) (hZ : Z.Warmed39 s.vm) {own : String} {index : Nat} {y : MethodName} {bytes : ByteArray} {maxL kk : Nat} {ret : Option FieldType} {rm : Room} {Qc : Option Value → Heap → List Loc → Prop} {ps : List FieldType} {r : Option FieldType} {stk : List Value} (pc' W : Nat) (b : Addr) (argsL : List Value)
    (hown : s.vm.findClass own = some m.cls) (w1 : (Jvm.Cond.methodLink own index y).before a0 Z = true) (w2 : (Jvm.Cond.instanceMethod y).before a0 Z = true) (w5 : (Jvm.Cond.privateMethod y).before a0 Z = true) (w6 : (Jvm.Cond.instantiable y.cls kk).before a0 Z = true) (w3 : (Jvm.Cond.initialized y.cls).before a0 Z = true) (w4 : (Jvm.Cond.code y bytes maxL ret).before a0 Z = true) (hy : y.cls ≠ "java/lang/invoke/MethodHandle" ∧ y.cls ≠ "java/lang/invoke/VarHandle")
    (hpd : parseMethodDescriptor y.desc = some ⟨ps, r⟩) (hlen : argsL.length = ps.length) (eT : T.heap = h) {C : String} (E : Exa Z h b C) (hM : Con l Z y bytes maxL ret [] rm (.ref b :: argsL).toArray h Qc) (hd : decode c.code pc = .ok (.invokevirtual index, 3)) (hsz : Ls.size = c.maxLocals) (hstk : stk = argsL.reverse ++ .ref b :: rest) (hW : (rest.map fun v => v.category).sum = W)
    (hf : rm.frames + 1 ≤ R.frames) (hl : W + (maxL + 11) + rm.locals ≤ R.locals) (hc : cells + rm.cells ≤ R.cells) (hsl : slots + rm.slots ≤ R.slots) (hp : pc + 3 = pc')
    (K : ∀ v T' L, Stand p l e R s m args below meth c T' (locs ++ L) (cells + rm.cells) (slots + rm.slots) → Qc v T'.heap L → Wp p e s below Q kc ks (T'.setTop (mkF m pc' Ls (v.toList ++ rest)))) : Wp p e s below Q kc ks (T.setTop (mkF m pc Ls stk)) := by
  subst hp hstk
  obtain ⟨cq, q, q'⟩ := E.cell
  have hpr := Cond.privateMethod_at (mvP hZ w5 (args := args))
  obtain ⟨c2, k2, i1, i2, i3, i4, -⟩ := Cond.instantiable_spec (mvT (args := args) hZ w6)
  have hsel := selects_self_of_private i1 i2 (Bool.or_eq_false_iff.mp i4).1 hpr (mvT (args := args) hZ w2) hy
  obtain ⟨v, vm₁, ⟨T', L', k', n'⟩, -, X', ⟨Lc, hQ, l1, l2, l3⟩, stp⟩ := X.privateBack hx (y := y) hown (mvT hZ w1) (mvT hZ w2) hsel hpr (mvT hZ w4) hy (backOf (W := W) hM hZ w4 w3 hf hl) (g := mkF m pc Ls (argsL.reverse ++ .ref b :: rest)) rfl hsz (Steps.refl _) (a := b) (by rw [eT]; exact q) q' (argsL := argsL) (rest := rest) (lenOf hpd hlen) rfl (by show 2 * 0 + _ ≤ _; omega) hd (fun _ _ => ⟨rfl, eT, hc, hsl⟩)
  dsimp only [Pt.U, Pt.locs, Pt.cells, Pt.slots] at X' l1 l2 l3 stp hQ
  subst l1 l2 l3
  exact Wp.chain stp (K v T' Lc X' hQ)
/-! arraycopy of primitives -/
theorem own_getD {n : Nat} {f : Nat → Value} {d : Value} {q : Nat} (hq : q < n) : ((List.range n).map f).getD q d = f q := by
  rw [List.getD_eq_getElem?_getD, List.getElem?_map, List.getElem?_range hq]; rfl
theorem own_splice {vd us : List Value} {j k q : Nat} {d : Value} (hu : us.length = k) (hjk : j + k ≤ vd.length) : (vd.take j ++ us ++ vd.drop (j + k)).getD q d = if j ≤ q ∧ q < j + k then us.getD (q - j) d else vd.getD q d := by
  simp only [List.getD_eq_getElem?_getD]
  have l1 : (vd.take j).length = j := by rw [List.length_take]; omega
  by_cases h1 : q < j
  · rw [List.append_assoc, List.getElem?_append_left (by omega), List.getElem?_take_of_lt h1, if_neg (by omega)]
  · by_cases h2 : q < j + k
    · rw [List.getElem?_append_left (by rw [List.length_append]; omega), List.getElem?_append_right (by omega), l1, if_pos ⟨by omega, h2⟩]
    · rw [List.getElem?_append_right (by rw [List.length_append]; omega), List.getElem?_drop, if_neg (by omega), List.length_append, l1, hu]
      congr 2
      omega
theorem IArr.arv (A : IArr Z h a ty n f) (hn : n < 2147483648) (hf : ∀ i, i < n → fits ty (f i) = true) : ∃ k, Arv Z h a k ty (Int32.ofNat n) ((List.range n).map f) .null := by
  obtain ⟨c, A, S, H⟩ := A
  obtain ⟨q1, q2⟩ := nat_of (own_ofNat hn)
  refine ⟨c.cls, c, A, rfl, by rw [q2, S], q1, fun i hi => ?_, fun i hi => ?_⟩
  · rw [own_getD (by omega)]; exact H i (by omega)
  · rw [own_getD (by omega)]; exact hf i (by omega)
theorem W.acopy (X : Stand p l e R s m args below meth c T locs cells slots) (hx : p.tables.exec = Jvm.exec) (hZ : Z.Warmed39 s.vm) {own : String} {index : Nat} {sp dp nn : Int32} {n' : Nat} {g : Nat → Value} {n0 : Nat} (pc' W i j k : Nat) (hown : s.vm.findClass own = some m.cls) (w1 : (Jvm.Cond.methodLink own index Jvm.Stand.acN).before a0 Z = true) (w2 : (Jvm.Cond.native Jvm.Stand.acN).before a0 Z = true) (w3 : (Jvm.Cond.static Jvm.Stand.acN).before a0 Z = true) (w4 : (Jvm.Cond.initialized "java/lang/System").before a0 Z = true) (eT : T.heap = h)
    (A : IArr Z h a ty n f) (B : IArr Z h b ty n' g) (hty : refKind ty = false) (hfa : ∀ i, i < n → fits ty (f i) = true) (hfb : ∀ i, i < n' → fits ty (g i) = true) (hsp : sp.toInt = (i : Int)) (hdp : dp.toInt = (j : Int)) (hnn : nn.toInt = (k : Int)) (h4 : i + k ≤ n) (h5 : j + k ≤ n') (hn : n < 2147483648) (hn' : n' < 2147483648) (N : Fr n0 locs) (ge : n0 ≤ b)
    (hsz : Ls.size = c.maxLocals) (hd : decode c.code pc = .ok (.invokestatic index, 3)) (hf : 1 ≤ R.frames) (hW : (st.map fun v => v.category).sum = W) (hlo : W + (nativeFrameWords "java/lang/System" "arraycopy" 5 + 11) ≤ R.locals) (hp : pc + 3 = pc')
    (K : ∀ T' h' L, Stand p l e R s m args below meth c T' L cells slots → T'.heap = h' → Fr n0 L → Keep h h' [b] → IArr Z h' b ty n' (fun q => if j ≤ q ∧ q < j + k then f (i + (q - j)) else g q) → Wp p e s below Q kc ks (T'.setTop (mkF m pc' Ls st))) : Wp p e s below Q kc ks (T.setTop (mkF m pc Ls (.int nn :: .int dp :: .ref b :: .int sp :: .ref a :: st))) := by
  subst hp
  obtain ⟨ka, VA⟩ := A.arv hn hfa
  obtain ⟨kb, VB⟩ := B.arv hn' hfb
  obtain ⟨s1, s2⟩ := nat_of hsp
  obtain ⟨d1, d2⟩ := nat_of hdp
  obtain ⟨m1, m2⟩ := nat_of hnn
  obtain ⟨-, z2⟩ := nat_of (own_ofNat hn)
  obtain ⟨-, z2'⟩ := nat_of (own_ofNat hn')
  obtain ⟨T', h', L, X', e', N', Kp, V', stp⟩ := cpA X hx hZ hown w1 w2 w3 w4 eT VA VB (Or.inl ⟨rfl, hty⟩) s1 d1 m1 (by rw [s2, m2, z2]; exact h4) (by rw [d2, m2, z2']; exact h5) rfl (by rw [d2, m2]; simpa using h5) N ge (g := mkF m pc Ls (.int nn :: .int dp :: .ref b :: .int sp :: .ref a :: st)) rfl hsz rfl hd hf (W := W) (by show 2 * 0 + _ ≤ _; omega) hlo
  refine Wp.step stp (K T' h' L X' e' N' Kp ?_)
  obtain ⟨c', A', -, S', -, H', -⟩ := V'
  refine ⟨c', A', by rw [S', z2'], fun q hq => ?_⟩
  rw [H' q (by rw [S', z2']; exact hq), d2, m2, s2, own_splice (by simp) (by simpa using h5)]
  dsimp only
  by_cases hh : j ≤ q ∧ q < j + k
  · rw [if_pos hh, if_pos hh, own_getD (by omega), own_getD (by omega)]
  · rw [if_neg hh, if_neg hh, own_getD hq]
def BArr (Z : State) (h : Heap) (a : Addr) (ty : FieldType) (n : Nat) : Prop := ∃ f, IArr Z h a ty n f ∧ ∀ i, i < n → fits ty (f i) = true
theorem BArr.lt (A : BArr Z h a ty n) : a < h.size := by obtain ⟨f, A, -⟩ := A; exact A.lt
theorem BArr.ext (A : BArr Z h a ty n) (E : Ext h h') : BArr Z h' a ty n := by obtain ⟨f, A, r⟩ := A; exact ⟨f, A.ext E, r⟩
theorem BArr.other {sl : Nat} {v : Value} (A : BArr Z h b ty n) (W : Wr h h' a sl v) (q : b ≠ a) : BArr Z h' b ty n := by obtain ⟨f, A, r⟩ := A; exact ⟨f, A.other W q, r⟩
theorem BArr.keep {ws : List Addr} (A : BArr Z h a ty n) (K : Keep h h' ws) (q : a ∉ ws) : BArr Z h' a ty n := by obtain ⟨f, A, r⟩ := A; exact ⟨f, A.keep K q, r⟩
theorem IArr.barr (A : IArr Z h a ty n (fun _ => defaultValue ty)) : BArr Z h a ty n := ⟨_, A, fun i _ => by cases ty <;> rfl⟩
theorem fits_splice {g : Nat → Value} {n' i j k : Nat} (hfa : ∀ i, i < n → fits ty (f i) = true) (hfb : ∀ i, i < n' → fits ty (g i) = true) (h4 : i + k ≤ n) : ∀ q, q < n' → fits ty ((fun q => if j ≤ q ∧ q < j + k then f (i + (q - j)) else g q) q) = true := fun q hq => by
  dsimp only
  split
  · exact hfa _ (by omega)
  · exact hfb _ hq
theorem own_ladd {x y : Int64} (h1 : -9223372036854775808 ≤ x.toInt + y.toInt) (h2 : x.toInt + y.toInt < 9223372036854775808) : (x + y).toInt = x.toInt + y.toInt := by
  have a : ((x + y).toInt - (x.toInt + y.toInt)) % 18446744073709551616 = 0 := by rw [Int64.toInt_add]; exact bm64 _
  have r := rng64 (x + y)
  omega
theorem own_lmul {x y : Int64} (h1 : -9223372036854775808 ≤ x.toInt * y.toInt) (h2 : x.toInt * y.toInt < 9223372036854775808) : (x * y).toInt = x.toInt * y.toInt := by
  have a : ((x * y).toInt - (x.toInt * y.toInt)) % 18446744073709551616 = 0 := by rw [Int64.toInt_mul]; exact bm64 _
  have r := rng64 (x * y)
  omega
theorem W.newarrE (X : Stand p l e R s m args below meth c T locs cells slots) (hx : p.tables.exec = Jvm.exec) (hZ : Z.Warmed39 s.vm) {aty : ArrayType} {z : Int32} (pc' : Nat) (k cap : Nat) (ad : String) (w : (Jvm.Cond.arrayClass (newarray.typeOf aty)).before a0 Z = true) (eT : T.heap = h) (hd : decode c.code pc = .ok (.newarray aty, 2)) (had : "[" ++ (newarray.typeOf aty).toString = ad) (hz : z.toInt = (k : Int)) (hcap : k ≤ cap) (hb : cap * 8 ≤ 536870912) (hc : cells + 1 ≤ R.cells) (hl : slots + cap ≤ R.slots) (hp : pc + 2 = pc')
    (K : ∀ T' h' a, a = h.size → Stand p l e R s m args below meth c T' locs (cells + 1) (slots + cap) → T'.heap = h' → Ext h h' → IArr Z h' a (newarray.typeOf aty) k (fun _ => defaultValue (newarray.typeOf aty)) → Exa Z h' a ad → Wp p e s below Q kc ks (T'.setTop (mkF m pc' Ls (.ref a :: st)))) : Wp p e s below Q kc ks (T.setTop (mkF m pc Ls (.int z :: st))) := by
  subst hp
  obtain ⟨q1, q2⟩ := nat_of hz
  obtain ⟨T', h', cA, X', e', E, A, EA, stp⟩ := newPE X hx hZ w eT (g := mkF m pc Ls (.int z :: st)) rfl hd rfl q1 (cap := cap) (by omega) hb hc hl had
  exact Wp.step stp (K T' h' _ rfl X' e' E (IArr.fresh A q2) EA)
def TakesA (Z : State) (h : Heap) (a : Addr) (C : String) : Prop := ∃ (c : Cell) (t ty : FieldType), Arr Z h a c t ∧ OvrA Z c.cls ty C
theorem TakesA.lt {C : String} (F : TakesA Z h a C) : a < h.size := by obtain ⟨c, t, ty, A, -⟩ := F; exact A.lt
theorem TakesA.ext {C : String} (F : TakesA Z h a C) (E : Ext h h') : TakesA Z h' a C := by obtain ⟨c, t, ty, A, O⟩ := F; exact ⟨c, t, ty, A.ext E, O⟩
theorem TakesA.wr {C : String} {sl : Nat} {v : Value} (F : TakesA Z h a C) (W : Wr h h' b sl v) : TakesA Z h' a C := by
  obtain ⟨c, t, ty, A, O⟩ := F
  by_cases q : a = b
  · subst q; exact ⟨_, t, ty, A.same W, O⟩
  · exact ⟨c, t, ty, A.other W q, O⟩
theorem TakesA.keep {C : String} {ws : List Addr} (F : TakesA Z h a C) (K : Keep h h' ws) (q : a ∉ ws) : TakesA Z h' a C := by obtain ⟨c, t, ty, A, O⟩ := F; exact ⟨c, t, ty, ⟨K.2.1 a c A.1 q, A.2⟩, O⟩
theorem TakesA.sto {C : String} {y : Addr} (F : TakesA Z h a C) (I : Ins Z h y C true) : Sto Z h a (.ref y) := by obtain ⟨c, t, ty, A, O⟩ := F; exact Sto.ofVA A rfl O I
theorem W.newRA (X : Stand p l e R s m args below meth c T locs cells slots) (hx : p.tables.exec = Jvm.exec) (hZ : Z.Warmed39 s.vm) {own : String} {ty : FieldType} {index : Nat} {z : Int32} (pc' : Nat) (k cap : Nat) (C : String) (hown : s.vm.findClass own = some m.cls) (hC : (FieldType.array ty).toString = C) (w1 : (Jvm.Cond.classLink own index C).before a0 Z = true) (w2 : (Jvm.Cond.arrayOver (.array ty)).before a0 Z = true) (eT : T.heap = h) (hd : decode c.code pc = .ok (.anewarray index, 3)) (hz : z.toInt = (k : Int)) (hcap : k ≤ cap) (hb : cap * 8 ≤ 536870912) (hc : cells + 1 ≤ R.cells) (hl : slots + cap ≤ R.slots) (hp : pc + 3 = pc')
    (K : ∀ T' h' a, a = h.size → Stand p l e R s m args below meth c T' locs (cells + 1) (slots + cap) → T'.heap = h' → Ext h h' → IArr Z h' a (.array ty) k (fun _ => defaultValue (.array ty)) → TakesA Z h' a C → Wp p e s below Q kc ks (T'.setTop (mkF m pc' Ls (.ref a :: st)))) : Wp p e s below Q kc ks (T.setTop (mkF m pc Ls (.int z :: st))) := by
  subst hp
  obtain ⟨q1, q2⟩ := nat_of hz
  obtain ⟨T', h', cA, X', e', E, A, -, O, stp⟩ := Jvm.RoadKit.newRA X hx hZ hown hC w1 w2 eT (g := mkF m pc Ls (.int z :: st)) rfl hd rfl q1 (cap := cap) (by omega) hb hc hl rfl
  exact Wp.step stp (K T' h' _ rfl X' e' E (IArr.fresh A q2) ⟨_, _, _, A, O⟩)
end W
end Jvm.OwnW
namespace Jvm.OwnW
open Sem ClassFile Op Lib Jvm.Stand Jvm.Free Jvm.LawKit Jvm.RoadKit Jvm.FP.Core
/-- the double is A times 2^e -/
def Rep (x : UInt64) (A : Nat) (e : Int) : Prop := ∃ k : Nat, val64 x = .fin false (A * 2 ^ k) (e - k)
/-- what rounding makes of A times 2^e -/
def DR (A : Nat) (e : Int) : Datum := roundRatio b64 false A 1 e
theorem own_b64 : b64.p = 53 ∧ b64.qmin = -1074 ∧ b64.qmax = 971 ∧ b64.tails = 2 ^ 52 := by decide
theorem DR_exact (A : Nat) (e : Int) (hA : A < 2 ^ 53) (h1 : -1000 ≤ e) (h2 : e ≤ 900) : ∃ k : Nat, DR A e = .fin false (A * 2 ^ k) (e - k) := by
  obtain ⟨b1, b2, b3, b4⟩ := own_b64
  by_cases z : A = 0
  · subst z
    refine ⟨(e + 1074).toNat, ?_⟩
    unfold DR roundRatio
    rw [if_pos rfl, b2, Nat.zero_mul]
    congr 1; omega
  · have l1 : 2 ^ A.log2 ≤ A := Nat.log2_self_le z
    have l2 : A < 2 ^ (A.log2 + 1) := Nat.lt_log2_self
    have l3 : A.log2 ≤ 52 := by
      have : A.log2 < 53 := (Nat.log2_lt z).mpr hA
      omega
    refine ⟨52 - A.log2, ?_⟩
    have p1 : 2 ^ A.log2 * 2 ^ (52 - A.log2) = 2 ^ 52 := by rw [← Nat.pow_add]; congr 1; omega
    have p2 : 2 ^ (A.log2 + 1) * 2 ^ (52 - A.log2) = 2 ^ 53 := by rw [← Nat.pow_add]; congr 1; omega
    have c1 : 2 ^ 52 ≤ A * 2 ^ (52 - A.log2) := by rw [← p1]; exact Nat.mul_le_mul_right _ l1
    have c2 : A * 2 ^ (52 - A.log2) < 2 ^ 53 := by rw [← p2]; exact Nat.mul_lt_mul_of_pos_right l2 (Nat.two_pow_pos _)
    refine roundRatio_exact good_b64 (by decide) ⟨by rw [b1]; exact c2, by rw [b2]; omega, by rw [b3]; omega, Or.inr (by rw [b4]; exact c1)⟩ ?_
    have q1 : (e - (e - ((52 - A.log2 : Nat) : Int))).toNat = 52 - A.log2 := by omega
    have q2 : ((e - ((52 - A.log2 : Nat) : Int)) - e).toNat = 0 := by omega
    rw [q1, q2]; simp
theorem Rep.of {x : UInt64} {A : Nat} {e : Int} (h : val64 x = DR A e) (hA : A < 2 ^ 53) (h1 : -1000 ≤ e) (h2 : e ≤ 900) : Rep x A e := by
  obtain ⟨k, q⟩ := DR_exact A e hA h1 h2; exact ⟨k, h.trans q⟩
theorem Rep.nn {x : UInt64} {A : Nat} {e : Int} (h : Rep x A e) : Jvm.Free.Fl.NoNaN64 x := Jvm.Free.Fl.val64_no.mpr (by obtain ⟨k, q⟩ := h; rw [q]; exact Datum.noConfusion)
theorem DR_congr {A B : Nat} {e e' : Int} (h : A * 2 ^ (e - e').toNat = B * 2 ^ (e' - e).toNat) : roundRatio b64 false A 1 e = DR B e' := roundRatio_congr (by decide) (by decide) (by simpa using h)
theorem own_i2d {a : Int32} {n : Nat} (h : a.toInt = (n : Int)) : val64 (FP.i2d a) = DR n 0 := by
  rw [val64_i2d, h]
  show roundRatio b64 (decide ((n : Int) < 0)) (n : Int).natAbs 1 0 = _
  rw [show decide ((n : Int) < 0) = false from decide_eq_false (by omega), show (n : Int).natAbs = n from by omega]
  rfl
theorem own_quot (c d : Nat) (q r : Int) (hd : d ≠ 0) : quotient b64 (.fin false c q) (.fin false d r) = roundRatio b64 false c d (q - r) := by
  show (if d = 0 then (if c = 0 then Datum.nan else Datum.inf (false != false)) else roundRatio b64 (false != false) c d (q - r)) = _
  rw [if_neg hd]; rfl
theorem own_z0 : val64 FP.dconst0 = .fin false 0 b64.qmin := by decide +kernel
theorem own_ddiv {x y : UInt64} {A : Nat} {e : Int} {e' : Int} {K : Nat} (hx : Rep x A e) (hy : val64 y = .fin false (2 ^ 52) ((K : Int) - 52)) (he : e - K = e') : val64 (FP.ddiv x y) = DR A e' := by
  subst he
  obtain ⟨k, q⟩ := hx
  rw [val64_ddiv, q, hy, own_quot _ _ _ _ (by decide)]
  refine roundRatio_congr (by decide) (by decide) ?_
  have q1 : (e - (k : Int) - ((K : Int) - 52) - (e - (K : Int))).toNat = 52 - k := by omega
  have q2 : (e - (K : Int) - (e - (k : Int) - ((K : Int) - 52))).toNat = k - 52 := by omega
  rw [q1, q2, Nat.mul_one, Nat.mul_assoc, Nat.mul_assoc, ← Nat.pow_add, ← Nat.pow_add]
  congr 2; omega
theorem own_units {A : Nat} {e m : Int} {k : Nat} (h : m ≤ e - k) : inUnits (A * 2 ^ k) (e - k) m = A * 2 ^ (e - m).toNat := by
  unfold inUnits
  rw [Nat.mul_assoc, ← Nat.pow_add]
  congr 2; omega
theorem own_dadd {x y : UInt64} {A B : Nat} {e : Int} (hx : Rep x A e) (hy : Rep y B e) : val64 (FP.dadd x y) = DR (A + B) e := by
  obtain ⟨k, q⟩ := hx
  obtain ⟨j, r⟩ := hy
  rw [val64_dadd, q, r]
  have hm1 : min (e - (k : Int)) (e - (j : Int)) ≤ e - k := Int.min_le_left _ _
  have hm2 : min (e - (k : Int)) (e - (j : Int)) ≤ e - j := Int.min_le_right _ _
  show roundRatio b64 (sumSign false false (sumUnits false (A * 2 ^ k) (e - k) false (B * 2 ^ j) (e - j) (min (e - (k : Int)) (e - (j : Int))))) (sumUnits false (A * 2 ^ k) (e - k) false (B * 2 ^ j) (e - j) (min (e - (k : Int)) (e - (j : Int)))).natAbs 1 (min (e - (k : Int)) (e - (j : Int))) = _
  generalize min (e - (k : Int)) (e - (j : Int)) = m at *
  have hs : sumUnits false (A * 2 ^ k) (e - k) false (B * 2 ^ j) (e - j) m = (((A + B) * 2 ^ (e - m).toNat : Nat) : Int) := by
    unfold sumUnits signed
    rw [own_units hm1, own_units hm2]
    simp only [Bool.false_eq_true, if_false]
    rw [Nat.add_mul]; omega
  rw [hs]
  have h0 : sumSign false false (((A + B) * 2 ^ (e - m).toNat : Nat) : Int) = false := by
    unfold sumSign; split
    · rfl
    · exact decide_eq_false (by omega)
  rw [h0, Int.natAbs_natCast]
  refine DR_congr ?_
  have q1 : (m - e).toNat = 0 := by omega
  rw [q1, Nat.pow_zero, Nat.mul_one]
theorem own_dsub {x y : UInt64} {A B : Nat} {e : Int} (hx : Rep x A e) (hy : Rep y B e) (hBA : B ≤ A) : val64 (FP.dsub x y) = DR (A - B) e := by
  obtain ⟨k, q⟩ := hx
  obtain ⟨j, r⟩ := hy
  rw [val64_dsub, q, r]
  have hm1 : min (e - (k : Int)) (e - (j : Int)) ≤ e - k := Int.min_le_left _ _
  have hm2 : min (e - (k : Int)) (e - (j : Int)) ≤ e - j := Int.min_le_right _ _
  show roundRatio b64 (sumSign false true (sumUnits false (A * 2 ^ k) (e - k) true (B * 2 ^ j) (e - j) (min (e - (k : Int)) (e - (j : Int))))) (sumUnits false (A * 2 ^ k) (e - k) true (B * 2 ^ j) (e - j) (min (e - (k : Int)) (e - (j : Int)))).natAbs 1 (min (e - (k : Int)) (e - (j : Int))) = _
  generalize min (e - (k : Int)) (e - (j : Int)) = m at *
  have hs : sumUnits false (A * 2 ^ k) (e - k) true (B * 2 ^ j) (e - j) m = (((A - B) * 2 ^ (e - m).toNat : Nat) : Int) := by
    unfold sumUnits signed
    rw [own_units hm1, own_units hm2]
    simp only [Bool.false_eq_true, if_false, if_true]
    have : B * 2 ^ (e - m).toNat ≤ A * 2 ^ (e - m).toNat := Nat.mul_le_mul_right _ hBA
    rw [Nat.sub_mul]; omega
  rw [hs]
  have h0 : sumSign false true (((A - B) * 2 ^ (e - m).toNat : Nat) : Int) = false := by
    unfold sumSign; split
    · rfl
    · exact decide_eq_false (by omega)
  rw [h0, Int.natAbs_natCast]
  refine DR_congr ?_
  have q1 : (m - e).toNat = 0 := by omega
  rw [q1, Nat.pow_zero, Nat.mul_one]
theorem own_dz {y : UInt64} {d : Nat} {r : Int} (hy : val64 y = .fin false d r) (hd : d ≠ 0) : FP.ddiv FP.dconst0 y = FP.dconst0 := by
  refine (val64_inj (by rw [own_z0]; exact Datum.noConfusion) ?_).symm
  rw [val64_ddiv, hy, own_z0, own_quot _ _ _ _ hd]; rfl
section W
variable {p : Program} {l : Launch} {e : Env} {R : Room} {s : State} {m : MethodId} {args : Array Value} {below : List Frame} {meth : Method} {c : Code} {T : State} {locs : List Loc} {cells slots : Nat} {Q : Option Value → Heap → List Loc → Prop} {kc ks : Nat} {Z : State} {a0 : Array Value} {h h' : Heap} {pc : Nat} {Ls : Array Slot} {st rest : List Value}
theorem W.dload (X : Stand p l e R s m args below meth c T locs cells slots) (hx : p.tables.exec = Jvm.exec) {k : Nat} {x : UInt64} (pc' : Nat) (hd : decode c.code pc = .ok (.dload k, 2)) (hl : Ls[k]? = some (.val (.double x))) (hp : pc + 2 = pc') (K : Wp p e s below Q kc ks (T.setTop (mkF m pc' Ls (.double x :: st)))) : Wp p e s below Q kc ks (T.setTop (mkF m pc Ls st)) := by
  subst hp; exact Wp.step (fun _ k => XS.dload X.here hx rfl hd hl k) K
theorem W.dloadN (X : Stand p l e R s m args below meth c T locs cells slots) (hx : p.tables.exec = Jvm.exec) {k : Fin 4} {x : UInt64} (pc' : Nat) (hd : decode c.code pc = .ok (.dload_n k, 1)) (hl : Ls[k.val]? = some (.val (.double x))) (hp : pc + 1 = pc') (K : Wp p e s below Q kc ks (T.setTop (mkF m pc' Ls (.double x :: st)))) : Wp p e s below Q kc ks (T.setTop (mkF m pc Ls st)) := by
  subst hp; exact Wp.step (fun _ k => XS.dloadN X.here hx rfl hd hl k) K
theorem W.dstore (X : Stand p l e R s m args below meth c T locs cells slots) (hx : p.tables.exec = Jvm.exec) {k : Nat} {x : UInt64} (pc' : Nat) (l' : Array Slot) (hd : decode c.code pc = .ok (.dstore k, 2)) (hl : storeLocals Ls k (.double x) = some l') (hp : pc + 2 = pc') (K : Wp p e s below Q kc ks (T.setTop (mkF m pc' l' st))) : Wp p e s below Q kc ks (T.setTop (mkF m pc Ls (.double x :: st))) := by
  subst hp; exact Wp.step (fun _ k => XS.dstore X.here hx rfl hd rfl hl k) K
theorem W.dstoreN (X : Stand p l e R s m args below meth c T locs cells slots) (hx : p.tables.exec = Jvm.exec) {k : Fin 4} {x : UInt64} (pc' : Nat) (l' : Array Slot) (hd : decode c.code pc = .ok (.dstore_n k, 1)) (hl : storeLocals Ls k.val (.double x) = some l') (hp : pc + 1 = pc') (K : Wp p e s below Q kc ks (T.setTop (mkF m pc' l' st))) : Wp p e s below Q kc ks (T.setTop (mkF m pc Ls (.double x :: st))) := by
  subst hp; exact Wp.step (fun _ k => XS.dstoreN X.here hx rfl hd rfl hl k) K
theorem W.dconst1 (X : Stand p l e R s m args below meth c T locs cells slots) (hx : p.tables.exec = Jvm.exec) (pc' : Nat) (hd : decode c.code pc = .ok (.dconst 1, 1)) (hp : pc + 1 = pc') (K : Wp p e s below Q kc ks (T.setTop (mkF m pc' Ls (.double FP.dconst1 :: st)))) : Wp p e s below Q kc ks (T.setTop (mkF m pc Ls st)) := by
  subst hp; exact Wp.step (fun _ k => XS.dconst1 X.here hx rfl hd rfl k) K
theorem W.ldcD (X : Stand p l e R s m args below meth c T locs cells slots) (hx : p.tables.exec = Jvm.exec) (hZ : Z.Warmed39 s.vm) {own : String} {index : Nat} {v : UInt64} (pc' : Nat) (hown : s.vm.findClass own = some m.cls) (w : (Jvm.Cond.constantDouble own index v).before a0 Z = true) (hd : decode c.code pc = .ok (.ldc2_w index, 3)) (hp : pc + 3 = pc') (K : Wp p e s below Q kc ks (T.setTop (mkF m pc' Ls (.double v :: st)))) : Wp p e s below Q kc ks (T.setTop (mkF m pc Ls st)) := by
  subst hp; exact Wp.step (fun t k => X.ldc2DoubleC hx hown (mvT hZ w) (g := mkF m pc Ls st) rfl hd t k) K
theorem W.i2d (X : Stand p l e R s m args below meth c T locs cells slots) (hx : p.tables.exec = Jvm.exec) {x : Int32} (pc' : Nat) (hd : decode c.code pc = .ok (.i2d, 1)) (hp : pc + 1 = pc') (K : Wp p e s below Q kc ks (T.setTop (mkF m pc' Ls (.double (FP.i2d x) :: st)))) : Wp p e s below Q kc ks (T.setTop (mkF m pc Ls (.int x :: st))) := by
  subst hp; exact Wp.step (fun _ k => XS.i2dS X.here hx rfl hd rfl rfl k) K
theorem W.dcmp (X : Stand p l e R s m args below meth c T locs cells slots) (hx : p.tables.exec = Jvm.exec) {o : CmpOp} {x y : UInt64} (pc' : Nat) (v : Int32) (hd : decode c.code pc = .ok (.dcmp o, 1)) (hv : cmpValue (FP.dcmp x y) o = v) (hp : pc + 1 = pc') (K : Wp p e s below Q kc ks (T.setTop (mkF m pc' Ls (.int v :: st)))) : Wp p e s below Q kc ks (T.setTop (mkF m pc Ls (.double y :: .double x :: st))) := by
  subst hp; exact Wp.step (fun _ k => XS.dcmpS X.here hx rfl hd rfl hv k) K
theorem W.dadd (X : Stand p l e R s m args below meth c T locs cells slots) (hx : p.tables.exec = Jvm.exec) {x y : UInt64} (pc' : Nat) (hd : decode c.code pc = .ok (.dadd, 1)) (hn : Jvm.Free.Fl.NoNaN64 (FP.dadd x y)) (hp : pc + 1 = pc') (K : Wp p e s below Q kc ks (T.setTop (mkF m pc' Ls (.double (FP.dadd x y) :: st)))) : Wp p e s below Q kc ks (T.setTop (mkF m pc Ls (.double y :: .double x :: st))) := by
  subst hp; exact Wp.step (fun _ k => XS.daddS X.here hx rfl hd rfl hn rfl k) K
theorem W.dsub (X : Stand p l e R s m args below meth c T locs cells slots) (hx : p.tables.exec = Jvm.exec) {x y : UInt64} (pc' : Nat) (hd : decode c.code pc = .ok (.dsub, 1)) (hn : Jvm.Free.Fl.NoNaN64 (FP.dsub x y)) (hp : pc + 1 = pc') (K : Wp p e s below Q kc ks (T.setTop (mkF m pc' Ls (.double (FP.dsub x y) :: st)))) : Wp p e s below Q kc ks (T.setTop (mkF m pc Ls (.double y :: .double x :: st))) := by
  subst hp; exact Wp.step (fun _ k => XS.dsubS X.here hx rfl hd rfl hn rfl k) K
theorem W.dmul (X : Stand p l e R s m args below meth c T locs cells slots) (hx : p.tables.exec = Jvm.exec) {x y : UInt64} (pc' : Nat) (hd : decode c.code pc = .ok (.dmul, 1)) (hn : Jvm.Free.Fl.NoNaN64 (FP.dmul x y)) (hp : pc + 1 = pc') (K : Wp p e s below Q kc ks (T.setTop (mkF m pc' Ls (.double (FP.dmul x y) :: st)))) : Wp p e s below Q kc ks (T.setTop (mkF m pc Ls (.double y :: .double x :: st))) := by
  subst hp; exact Wp.step (fun _ k => XS.dmulS X.here hx rfl hd rfl hn rfl k) K
theorem W.ddiv (X : Stand p l e R s m args below meth c T locs cells slots) (hx : p.tables.exec = Jvm.exec) {x y : UInt64} (pc' : Nat) (hd : decode c.code pc = .ok (.ddiv, 1)) (hn : Jvm.Free.Fl.NoNaN64 (FP.ddiv x y)) (hp : pc + 1 = pc') (K : Wp p e s below Q kc ks (T.setTop (mkF m pc' Ls (.double (FP.ddiv x y) :: st)))) : Wp p e s below Q kc ks (T.setTop (mkF m pc Ls (.double y :: .double x :: st))) := by
  subst hp; exact Wp.step (fun _ k => XS.ddivS X.here hx rfl hd rfl hn rfl k) K
theorem own_abs {x : UInt64} {c : Nat} {q : Int} (h : val64 x = .fin false c q) : x &&& 0x7fffffffffffffff = x := by
  have hs : fieldS b64 x.toNat = false := by
    unfold val64 Jvm.FP.Core.decode at h
    split at h
    · split at h <;> cases h
    · split at h <;> (injection h)
  have hl : x.toNat < 2 ^ 63 := by
    unfold fieldS at hs
    have t : b64.tails = 2 ^ 52 := by decide
    have t2 : b64.exps = 2 ^ 11 := by decide
    rw [t, t2, Nat.div_div_eq_div_mul] at hs
    have lt := x.toNat_lt
    have : x.toNat / (2 ^ 52 * 2 ^ 11) % 2 ≠ 1 := by simpa using hs
    omega
  apply UInt64.toNat_inj.mp
  rw [UInt64.toNat_and]
  have h1 : (0x7fffffffffffffff : UInt64).toNat = 2 ^ 63 - 1 := by decide
  rw [h1, Nat.and_two_pow_sub_one_eq_mod, Nat.mod_eq_of_lt hl]
theorem W.absd (X : Stand p l e R s m args below meth c T locs cells slots) (hx : p.tables.exec = Jvm.exec) (hZ : Z.Warmed39 s.vm) {own : String} {index : Nat} {x : UInt64} (pc' W : Nat) (hown : s.vm.findClass own = some m.cls) (w1 : (Jvm.Cond.methodLink own index Jvm.Free.Fl.Abs.absDN).before a0 Z = true) (w2 : (Jvm.Cond.static Jvm.Free.Fl.Abs.absDN).before a0 Z = true) (w3 : (Jvm.Cond.initialized "java/lang/Math").before a0 Z = true) (w4 : (Jvm.Cond.code Jvm.Free.Fl.Abs.absDN Jvm.Free.Fl.Abs.absDCode 2 (some .double)).before a0 Z = true) (eT : T.heap = h) (hn : Jvm.Free.Fl.NoNaN64 x) (hsz : Ls.size = c.maxLocals) (hd : decode c.code pc = .ok (.invokestatic index, 3)) (hf : 1 ≤ R.frames) (hW : (st.map fun v => v.category).sum = W) (hlo : W + 13 ≤ R.locals) (hc : cells ≤ R.cells) (hs : slots ≤ R.slots) (hp : pc + 3 = pc')
    (K : ∀ T', Stand p l e R s m args below meth c T' locs cells slots → T'.heap = h → Wp p e s below Q kc ks (T'.setTop (mkF m pc' Ls (.double (x &&& 0x7fffffffffffffff) :: st)))) : Wp p e s below Q kc ks (T.setTop (mkF m pc Ls (.double x :: st))) := by
  subst hp
  obtain ⟨T', X', e', stp⟩ := natS X hx hZ hown w1 w2 w3 w4 (by decide) eT (W := W) (F := fun a' => a' = #[.double x] ∧ Jvm.Free.Fl.NoNaN64 x) (fun hcode => Jvm.Free.Fl.Abs.absD_pays x hcode hf hlo) (g := mkF m pc Ls (.double x :: st)) rfl hsz (argsL := [.double x]) (rest := st) (lenOf (d := "(D)D") (ps := [.double]) (r := some .double) (by decide +kernel) rfl) rfl (by show 2 * 0 + _ ≤ _; omega) hd hc hs ⟨rfl, hn⟩ rfl
  exact Wp.step stp (K T' X' e')
end W
end Jvm.OwnW
namespace Jvm.Pilot.@@N@@
open Jvm Jvm.ClassFile Sem Op Lib Jvm.Free Jvm.Stand Jvm.LawKit Jvm.RoadKit Jvm.OwnW Bundle Jvm.Pilot.@@N@@.Jvm.D
theorem pd_0 : parseMethodDescriptor "(DD)V" = some ⟨[.double, .double], none⟩ := by decide +kernel
theorem pd_1 : parseMethodDescriptor "()D" = some ⟨[], some .double⟩ := by decide +kernel
theorem own_v20 : Jvm.FP.Core.val64 (FP.i2d (1048576 : Int32)) = .fin false (2 ^ 52) (((20 : Nat) : Int) - 52) := by decide +kernel
theorem own_v2 : Jvm.FP.Core.val64 (4611686018427387904 : UInt64) = .fin false (2 ^ 52) (((1 : Nat) : Int) - 52) := by decide +kernel
theorem own_v21 : Jvm.FP.Core.val64 (FP.dmul (4611686018427387904 : UInt64) (FP.i2d (1048576 : Int32))) = .fin false (2 ^ 52) (((21 : Nat) : Int) - 52) := by decide +kernel
theorem own_r0 : Jvm.FP.Core.val64 FP.dconst1 = .fin false (1048576 * 2 ^ 32) (-20 - ((32 : Nat) : Int)) := by decide +kernel
theorem own_r1 {M : Nat} (hM : M = 1048576) : Rep FP.dconst1 M (-20) := ⟨32, by rw [hM]; exact own_r0⟩
theorem own_part {n : Nat} {y : UInt64} (hy : Jvm.FP.Core.val64 y = .fin false (2 ^ 52) (((20 : Nat) : Int) - 52)) {M : Nat} (hM : M = 1048576) (h : n ≤ M) : Rep (FP.ddiv (FP.i2d (Int32.ofNat n)) y) n (-20) :=
  Rep.of (own_ddiv (K := 20) (Rep.of (own_i2d (own_ofNat (by omega))) (by omega) (by decide) (by decide)) hy (by decide)) (by omega) (by decide) (by decide)
theorem own_acc {x y : UInt64} {a b M : Nat} (hM : M = 1048576) (hx : Rep x a (-20)) (hy : Rep y b (-20)) (ha : a ≤ M) (hb : b ≤ M) : Rep (FP.dadd x FP.dconst1) (a + M) (-20) ∧ Rep (FP.dsub (FP.dadd x FP.dconst1) y) (a + M - b) (-20) ∧ Jvm.FP.Core.val64 (FP.ddiv (FP.dsub (FP.dadd x FP.dconst1) y) (4611686018427387904 : UInt64)) = DR (a + M - b) (-21) := by
  have h1 : Rep (FP.dadd x FP.dconst1) (a + M) (-20) := Rep.of (own_dadd hx (own_r1 hM)) (by omega) (by decide) (by decide)
  have h2 : Rep (FP.dsub (FP.dadd x FP.dconst1) y) (a + M - b) (-20) := Rep.of (own_dsub h1 hy (by omega)) (by omega) (by decide) (by decide)
  exact ⟨h1, h2, own_ddiv (K := 1) h2 own_v2 (by decide)⟩
theorem own_exp {n : Nat} {y : UInt64} (hy : Jvm.FP.Core.val64 y = .fin false (2 ^ 52) (((21 : Nat) : Int) - 52)) {M : Nat} (hM : M = 1048576) (h : n ≤ M + M) : Jvm.FP.Core.val64 (FP.ddiv (FP.i2d (Int32.ofNat n)) y) = DR n (-21) :=
  own_ddiv (K := 21) (Rep.of (own_i2d (own_ofNat (by omega))) (by omega) (by decide) (by decide)) hy (by decide)
theorem own_dr {x : UInt64} {n : Nat} (hx : Jvm.FP.Core.val64 x = DR n (-21)) {M : Nat} (hM : M = 1048576) (h : n ≤ M + M) : Jvm.Free.Fl.NoNaN64 x := (Rep.of hx (by omega) (by decide) (by decide)).nn
theorem own_same {x y : UInt64} {n : Nat} (hx : Jvm.FP.Core.val64 x = DR n (-21)) (hy : Jvm.FP.Core.val64 y = DR n (-21)) {M : Nat} (hM : M = 1048576) (h : n ≤ M + M) : x = y :=
  Jvm.FP.Core.val64_inj (by obtain ⟨k, q⟩ := Rep.of hx (by omega) (by decide) (by decide); rw [q]; exact Jvm.FP.Core.Datum.noConfusion) (hx.trans hy.symm)
theorem d1_0 : decode prog_4_method_1_code 0 = .ok (.aload_n 0, 1) := by decide +kernel
theorem d1_1 : decode prog_4_method_1_code 1 = .ok (.invokespecial 1, 3) := by decide +kernel
theorem d1_4 : decode prog_4_method_1_code 4 = .ok (.aload_n 0, 1) := by decide +kernel
theorem d1_5 : decode prog_4_method_1_code 5 = .ok (.dload_n 1, 1) := by decide +kernel
theorem d1_6 : decode prog_4_method_1_code 6 = .ok (.putfield 7, 3) := by decide +kernel
theorem d1_9 : decode prog_4_method_1_code 9 = .ok (.aload_n 0, 1) := by decide +kernel
theorem d1_10 : decode prog_4_method_1_code 10 = .ok (.dload_n 3, 1) := by decide +kernel
theorem d1_11 : decode prog_4_method_1_code 11 = .ok (.putfield 13, 3) := by decide +kernel
theorem d1_14 : decode prog_4_method_1_code 14 = .ok (.return_, 1) := by decide +kernel
theorem pn_1 : plainName "com/example/camf/camf/AutoscalingModel$Rates" = true := by first | (simp [plainName, overriddenIn]; done) | decide +kernel
theorem ef_rminit (m : MethodId) (o : Addr) (tx : UInt64) (ty : UInt64) : entryFrame m #[(.ref o), (.double tx), (.double ty)] 5 = mkF m 0 #[.val (.ref o), .val (.double tx), .second, .val (.double ty), .second] [] := by first | (simp [entryFrame, mkF, argsToLocals, Value.category]; done) | rfl
set_option maxRecDepth 65536 in
set_option maxHeartbeats 40000000 in
theorem rminit (l : Launch) (Z : State) (a0 : Array Value) (hw : ∀ d ∈ tables_1, d.before a0 Z = true) (o : Addr) (tx ty : UInt64) (h0 : Heap) (n0 : Nat) (Z0 : n0 ≤ h0.size) (E : Exa Z h0 o "com/example/camf/camf/AutoscalingModel$Rates") (F1 : Fld Z h0 o "com/example/camf/camf/AutoscalingModel$Rates" "truePositiveRate" "D" (.double 0)) (F2 : Fld Z h0 o "com/example/camf/camf/AutoscalingModel$Rates" "falsePositiveRate" "D" (.double 0)) (ge_o : n0 ≤ o) :
    Con l Z (⟨"com/example/camf/camf/AutoscalingModel$Rates", "<init>", "(DD)V"⟩ : MethodName) prog_4_method_1_code 5 none [] ({ frames := 1, cells := 0, slots := 0, locals := 20 } : Room) #[(.ref o), (.double tx), (.double ty)] h0 (fun v h L => v = none ∧ Fr n0 L ∧ Keep h0 h [o] ∧ Exa Z h o "com/example/camf/camf/AutoscalingModel$Rates" ∧ Fld Z h o "com/example/camf/camf/AutoscalingModel$Rates" "truePositiveRate" "D" (.double tx) ∧ Fld Z h o "com/example/camf/camf/AutoscalingModel$Rates" "falsePositiveRate" "D" (.double ty)) := by
  refine Con.of (plainFor_of_name pn_1) ?_
  intro p e s m below meth c s₁ hx hby hml hown hnm hret hlk hZ X0 e0
  refine Wp.enter (ef_rminit m o tx ty) ?_
  have KP : Keep h0 h0 [o] := Keep.refl _ _
  refine W.aloadN X0 hx 1 (hb hby d1_0) rfl rfl rfl ?_
  refine W.initO X0 hx hZ 4 0 hown (hw _ (List.mem_of_getElem? (i := 8) rfl)) (hw _ (List.mem_of_getElem? (i := 9) rfl)) (hw _ (List.mem_of_getElem? (i := 10) rfl)) e0 (by rw [hml]; rfl) (hb hby d1_1) (by decide) rfl (by decide) rfl ?_
  intro T1 X1 e1
  refine W.aloadN X1 hx 5 (hb hby d1_4) rfl rfl rfl ?_
  refine W.dloadN X1 hx 6 (hb hby d1_5) rfl rfl ?_
  refine W.putF X1 hx hZ 9 hown (hw _ (List.mem_of_getElem? (i := 11) rfl)) Via.refl e1 F1 E (Or.inr ⟨(hw _ (List.mem_of_getElem? (i := 12) rfl)), rfl, hnm⟩) (hw _ (List.mem_of_getElem? (i := 3) rfl)) (ty := .double) (by decide) rfl rfl (hb hby d1_6) rfl ?_
  intro T2 h2 X2 e2 W2 F1
  have E := E.wr W2
  have F2 := Fld.other W2 F2 (Or.inr (slot_ne (Or.inr (hw _ (List.mem_of_getElem? (i := 14) rfl))) (Or.inr (hw _ (List.mem_of_getElem? (i := 12) rfl))) (by decide) (t := .double) (t' := .double) (by decide) (by decide)))
  have z2 : n0 ≤ h2.size := by rw [W2.size]; exact Z0
  have KP := KP.wr W2 (by first | (refine Or.inl ?_; simp; done) | exact Or.inr gx_o)
  refine W.aloadN X2 hx 10 (hb hby d1_9) rfl rfl rfl ?_
  refine W.dloadN X2 hx 11 (hb hby d1_10) rfl rfl ?_
  refine W.putF X2 hx hZ 14 hown (hw _ (List.mem_of_getElem? (i := 13) rfl)) Via.refl e2 F2 E (Or.inr ⟨(hw _ (List.mem_of_getElem? (i := 14) rfl)), rfl, hnm⟩) (hw _ (List.mem_of_getElem? (i := 3) rfl)) (ty := .double) (by decide) rfl rfl (hb hby d1_11) rfl ?_
  intro T3 h3 X3 e3 W3 F2
  have E := E.wr W3
  have F1 := Fld.other W3 F1 (Or.inr (slot_ne (Or.inr (hw _ (List.mem_of_getElem? (i := 12) rfl))) (Or.inr (hw _ (List.mem_of_getElem? (i := 14) rfl))) (by decide) (t := .double) (t' := .double) (by decide) (by decide)))
  have z3 : n0 ≤ h3.size := by rw [W3.size]; exact z2
  have KP := KP.wr W3 (by first | (refine Or.inl ?_; simp; done) | exact Or.inr gx_o)
  refine W.vret X3 hx hlk hret (hb hby d1_14) (by decide) (by decide) ?_
  rw [e3]
  exact ⟨rfl, (Fr.app (Fr.app (Fr.nil _) (fr1 ge_o)) (fr1 ge_o)), KP, E, F1, F2⟩
theorem d3_0 : decode prog_4_method_4_code 0 = .ok (.aload_n 0, 1) := by decide +kernel
theorem d3_1 : decode prog_4_method_4_code 1 = .ok (.getfield 7, 3) := by decide +kernel
theorem d3_4 : decode prog_4_method_4_code 4 = .ok (.dconst 1, 1) := by decide +kernel
theorem d3_5 : decode prog_4_method_4_code 5 = .ok (.dadd, 1) := by decide +kernel
theorem d3_6 : decode prog_4_method_4_code 6 = .ok (.aload_n 0, 1) := by decide +kernel
theorem d3_7 : decode prog_4_method_4_code 7 = .ok (.getfield 13, 3) := by decide +kernel
theorem d3_10 : decode prog_4_method_4_code 10 = .ok (.dsub, 1) := by decide +kernel
theorem d3_11 : decode prog_4_method_4_code 11 = .ok (.ldc2_w 16, 3) := by decide +kernel
theorem d3_14 : decode prog_4_method_4_code 14 = .ok (.ddiv, 1) := by decide +kernel
theorem d3_15 : decode prog_4_method_4_code 15 = .ok (.dreturn, 1) := by decide +kernel
theorem pn_3 : plainName "com/example/camf/camf/AutoscalingModel$Rates" = true := by first | (simp [plainName, overriddenIn]; done) | decide +kernel
theorem ef_rm3 (m : MethodId) (o : Addr) : entryFrame m #[(.ref o)] 1 = mkF m 0 #[.val (.ref o)] [] := by first | (simp [entryFrame, mkF, argsToLocals, Value.category]; done) | rfl
set_option maxRecDepth 65536 in
set_option maxHeartbeats 40000000 in
theorem rm3 (l : Launch) (Z : State) (a0 : Array Value) (hw : ∀ d ∈ tables_1, d.before a0 Z = true) (o : Addr) (tx ty : UInt64) (a b M : Nat) (h0 : Heap) (F1 : Fld Z h0 o "com/example/camf/camf/AutoscalingModel$Rates" "truePositiveRate" "D" (.double tx)) (F2 : Fld Z h0 o "com/example/camf/camf/AutoscalingModel$Rates" "falsePositiveRate" "D" (.double ty)) (hx1 : Rep tx a (-20)) (hy1 : Rep ty b (-20)) (hM : M = 1048576) (ha : a ≤ M) (hb0 : b ≤ M) :
    Con l Z (⟨"com/example/camf/camf/AutoscalingModel$Rates", "accuracy", "()D"⟩ : MethodName) prog_4_method_4_code 1 (some .double) [] ({ frames := 0, cells := 0, slots := 0, locals := 0 } : Room) #[(.ref o)] h0 (fun v h L => v = some (.double (FP.ddiv (FP.dsub (FP.dadd tx FP.dconst1) ty) (4611686018427387904 : UInt64))) ∧ h = h0 ∧ L = []) := by
  refine Con.of (plainFor_of_name pn_3) ?_
  intro p e s m below meth c s₁ hx hby hml hown hnm hret hlk hZ X0 e0
  refine Wp.enter (ef_rm3 m o) ?_
  obtain ⟨r1, r2, r3⟩ := own_acc hM hx1 hy1 ha hb0
  refine W.aloadN X0 hx 1 (hb hby d3_0) rfl rfl rfl ?_
  refine W.getF X0 hx hZ 4 hown (hw _ (List.mem_of_getElem? (i := 11) rfl)) Via.refl e0 F1 (hb hby d3_1) rfl ?_
  intro T1 X1 e1
  refine W.dconst1 X1 hx 5 (hb hby d3_4) rfl ?_
  refine W.dadd X1 hx 6 (hb hby d3_5) r1.nn rfl ?_
  refine W.aloadN X1 hx 7 (hb hby d3_6) rfl rfl rfl ?_
  refine W.getF X1 hx hZ 10 hown (hw _ (List.mem_of_getElem? (i := 13) rfl)) Via.refl e1 F2 (hb hby d3_7) rfl ?_
  intro T2 X2 e2
  refine W.dsub X2 hx 11 (hb hby d3_10) r2.nn rfl ?_
  refine W.ldcD X2 hx hZ 14 hown (hw _ (List.mem_of_getElem? (i := 20) rfl)) (hb hby d3_11) rfl ?_
  refine W.ddiv X2 hx 15 (hb hby d3_14) (own_dr r3 hM (by omega)) rfl ?_
  refine W.dret X2 hx hlk hret (hb hby d3_15) (by decide) (by decide) ?_
  exact ⟨rfl, e2, rfl⟩
theorem pn_0 : plainName "com/example/camf/camf/RatesAccuracyPinLaw" = true := by first | (simp [plainName, overriddenIn]; done) | decide +kernel
theorem ef_rm0 (m : MethodId) (p1 : Int32) (p2 : Int32) : entryFrame m #[(.int p1), (.int p2)] maxLocals = mkF m 0 #[.val (.int p1), .val (.int p2), .unset, .unset, .unset, .unset, .unset, .unset, .unset, .unset] [] := by first | (simp [entryFrame, mkF, argsToLocals, Value.category, maxLocals]; done) | rfl
set_option maxRecDepth 65536 in
set_option maxHeartbeats 40000000 in
theorem rm0 (l : Launch) (Z : State) (a0 : Array Value) (hw : ∀ d ∈ tables_1, d.before a0 Z = true) (ws : List Jvm.Cond) (p1 p2 : Int32) (h0 : Heap) (n0 : Nat) (Z0 : n0 ≤ h0.size)  :
    Con l Z x code maxLocals ret ws room_1 #[(.int p1), (.int p2)] h0 (fun v h L => v = some (.int 1) ∧ Fr n0 L) := by
  refine Con.of (plainFor_of_name pn_0) ?_
  intro p e s m below meth c s₁ hx hby hml hown hnm hret hlk hZ X0 e0
  refine Wp.enter (ef_rm0 m p1 p2) ?_
  obtain ⟨M, hM⟩ : ∃ z : Nat, z = 1048576 := ⟨_, rfl⟩
  refine W.ldcI X0 hx hZ 2 hown (hw _ (List.mem_of_getElem? (i := 0) rfl)) (hb hby at_0) rfl ?_
  refine W.istoreN X0 hx 3 #[.val (.int p1), .val (.int p2), .val (.int (1048576 : Int32)), .unset, .unset, .unset, .unset, .unset, .unset, .unset] (hb hby at_2) rfl rfl ?_
  refine W.iloadN X0 hx 4 (hb hby at_3) rfl rfl ?_
  refine W.ldcI X0 hx hZ 6 hown (hw _ (List.mem_of_getElem? (i := 1) rfl)) (hb hby at_4) rfl ?_
  refine W.iand X0 hx 7 (hb hby at_6) rfl ?_
  refine W.iloadN X0 hx 8 (hb hby at_7) rfl rfl ?_
  refine W.iconst X0 hx 9 (1 : Int32) (hb hby at_8) rfl rfl ?_
  refine W.iadd X0 hx 10 (hb hby at_9) rfl ?_
  refine W.irem X0 hx 11 (hb hby at_10) (by decide) rfl ?_
  obtain ⟨rna, hrna, erna⟩ := own_and p1 2147483647 (by decide)
  obtain ⟨na, hna, ena, -⟩ := own_rem (x := p1 &&& 2147483647) (y := (1048576 : Int32) + 1) (by omega) (by decide)
  have hna : na ≤ M := by
    have e : ((1048576 : Int32) + 1).toInt = 1048577 := by decide
    omega
  have ena := own_ieq ena
  rw [ena]
  refine W.istoreN X0 hx 12 #[.val (.int p1), .val (.int p2), .val (.int (1048576 : Int32)), .val (.int (Int32.ofNat na)), .unset, .unset, .unset, .unset, .unset, .unset] (hb hby at_11) rfl rfl ?_
  refine W.iloadN X0 hx 13 (hb hby at_12) rfl rfl ?_
  refine W.ldcI X0 hx hZ 15 hown (hw _ (List.mem_of_getElem? (i := 1) rfl)) (hb hby at_13) rfl ?_
  refine W.iand X0 hx 16 (hb hby at_15) rfl ?_
  refine W.iloadN X0 hx 17 (hb hby at_16) rfl rfl ?_
  refine W.iconst X0 hx 18 (1 : Int32) (hb hby at_17) rfl rfl ?_
  refine W.iadd X0 hx 19 (hb hby at_18) rfl ?_
  refine W.irem X0 hx 20 (hb hby at_19) (by decide) rfl ?_
  obtain ⟨rnb, hrnb, ernb⟩ := own_and p2 2147483647 (by decide)
  obtain ⟨nb, hnb, enb, -⟩ := own_rem (x := p2 &&& 2147483647) (y := (1048576 : Int32) + 1) (by omega) (by decide)
  have hnb : nb ≤ M := by
    have e : ((1048576 : Int32) + 1).toInt = 1048577 := by decide
    omega
  have enb := own_ieq enb
  rw [enb]
  obtain ⟨dd, g_dd⟩ : ∃ z, FP.i2d (1048576 : Int32) = z := ⟨_, rfl⟩
  have vd := own_v20
  rw [g_dd] at vd
  have vd2 := own_v21
  rw [g_dd] at vd2
  have pa := own_part vd hM hna
  have pb := own_part vd hM hnb
  refine W.istore X0 hx 22 #[.val (.int p1), .val (.int p2), .val (.int (1048576 : Int32)), .val (.int (Int32.ofNat na)), .val (.int (Int32.ofNat nb)), .unset, .unset, .unset, .unset, .unset] (hb hby at_20) rfl rfl ?_
  refine W.newO X0 hx hZ 25 hown (hw _ (List.mem_of_getElem? (i := 2) rfl)) (hw _ (List.mem_of_getElem? (i := 3) rfl)) (hw _ (List.mem_of_getElem? (i := 4) rfl)) e0 (hb hby at_22) (by decide) (by decide) rfl ?_
  intro T1 h1 o q1 X1 e1 E1 E D
  have ge_o : n0 ≤ o := by have := Z0; omega
  have z1 : n0 ≤ h1.size := Nat.le_trans Z0 E1.1
  have F1 := D (Or.inr (hw _ (List.mem_of_getElem? (i := 12) rfl))) (ty := .double) (by decide)
  have F2 := D (Or.inr (hw _ (List.mem_of_getElem? (i := 14) rfl))) (ty := .double) (by decide)
  refine W.dup X1 hx 26 (hb hby at_25) rfl rfl ?_
  refine W.iloadN X1 hx 27 (hb hby at_26) rfl rfl ?_
  refine W.i2d X1 hx 28 (hb hby at_27) rfl ?_
  refine W.iloadN X1 hx 29 (hb hby at_28) rfl rfl ?_
  refine W.i2d X1 hx 30 (hb hby at_29) rfl ?_
  rw [g_dd]
  refine W.ddiv X1 hx 31 (hb hby at_30) pa.nn rfl ?_
  generalize g_ta : (FP.ddiv (FP.i2d (Int32.ofNat na)) dd) = ta
  rw [g_ta] at pa
  refine W.iload X1 hx 33 (hb hby at_31) rfl rfl ?_
  refine W.i2d X1 hx 34 (hb hby at_33) rfl ?_
  refine W.iloadN X1 hx 35 (hb hby at_34) rfl rfl ?_
  refine W.i2d X1 hx 36 (hb hby at_35) rfl ?_
  rw [g_dd]
  refine W.ddiv X1 hx 37 (hb hby at_36) pb.nn rfl ?_
  skip
  generalize g_tb : (FP.ddiv (FP.i2d (Int32.ofNat nb)) dd) = tb
  rw [g_tb] at pb
  refine W.callI X1 hx hZ 40 1 o [(.double ta), (.double tb)] rfl hown (hw _ (List.mem_of_getElem? (i := 5) rfl)) (hw _ (List.mem_of_getElem? (i := 6) rfl)) (hw _ (List.mem_of_getElem? (i := 4) rfl)) (hw _ (List.mem_of_getElem? (i := 7) rfl)) (by decide) pd_0 rfl e1 (rminit l Z a0 hw o ta tb h1 n0 z1 E F1 F2 ge_o) (hb hby at_37) (by rw [hml]; rfl) rfl rfl (by decide) (by decide) (by decide) (by decide) rfl ?_
  rintro v2 T2 L2 X2 ⟨rfl, N2, K2, E, F1, F2⟩
  have z2 : n0 ≤ T2.heap.size := Nat.le_trans z1 K2.1
  refine W.astore X2 hx 42 #[.val (.int p1), .val (.int p2), .val (.int (1048576 : Int32)), .val (.int (Int32.ofNat na)), .val (.int (Int32.ofNat nb)), .val (.ref o), .unset, .unset, .unset, .unset] (hb hby at_40) rfl rfl rfl ?_
  refine W.aload X2 hx 44 (hb hby at_42) rfl rfl rfl ?_
  refine W.callV X2 hx hZ 47 0 o [] hown (hw _ (List.mem_of_getElem? (i := 15) rfl)) (hw _ (List.mem_of_getElem? (i := 16) rfl)) (hw _ (List.mem_of_getElem? (i := 18) rfl)) (hw _ (List.mem_of_getElem? (i := 17) rfl)) (hw _ (List.mem_of_getElem? (i := 4) rfl)) (hw _ (List.mem_of_getElem? (i := 19) rfl)) (by decide) pd_1 rfl rfl E (rm3 l Z a0 hw o ta tb na nb M T2.heap F1 F2 pa pb hM hna hnb) (hb hby at_44) (by rw [hml]; rfl) rfl rfl (by decide) (by decide) (by decide) (by decide) rfl ?_
  rintro v3 T3 L3 X3 ⟨rfl, e3, rfl⟩
  obtain ⟨-, -, r3⟩ := own_acc hM pa pb hna hnb
  generalize g_acc : (FP.ddiv (FP.dsub (FP.dadd ta FP.dconst1) tb) (4611686018427387904 : UInt64)) = acc
  rw [g_acc] at r3
  refine W.dstore X3 hx 49 #[.val (.int p1), .val (.int p2), .val (.int (1048576 : Int32)), .val (.int (Int32.ofNat na)), .val (.int (Int32.ofNat nb)), .val (.ref o), .val (.double acc), .second, .unset, .unset] (hb hby at_47) rfl rfl ?_
  refine W.iloadN X3 hx 50 (hb hby at_49) rfl rfl ?_
  refine W.iloadN X3 hx 51 (hb hby at_50) rfl rfl ?_
  refine W.iadd X3 hx 52 (hb hby at_51) rfl ?_
  refine W.iload X3 hx 54 (hb hby at_52) rfl rfl ?_
  refine W.isub X3 hx 55 (hb hby at_54) rfl ?_
  have es : (Int32.ofNat na + (1048576 : Int32)) - Int32.ofNat nb = Int32.ofNat (na + M - nb) := by
    apply own_ieq
    have e : (1048576 : Int32).toInt = 1048576 := by decide
    have e1 : (Int32.ofNat na + (1048576 : Int32)).toInt = (na : Int) + 1048576 := by rw [own_add, own_ofNat (by omega), e]; all_goals (rw [own_ofNat (by omega), e]; omega)
    rw [own_sub, e1, own_ofNat (by omega)]
    · omega
    all_goals (rw [e1, own_ofNat (by omega)]; omega)
  rw [es]
  have hN : na + M - nb ≤ M + M := by omega
  refine W.i2d X3 hx 56 (hb hby at_55) rfl ?_
  refine W.ldcD X3 hx hZ 59 hown (hw _ (List.mem_of_getElem? (i := 21) rfl)) (hb hby at_56) rfl ?_
  refine W.iloadN X3 hx 60 (hb hby at_59) rfl rfl ?_
  refine W.i2d X3 hx 61 (hb hby at_60) rfl ?_
  rw [g_dd]
  refine W.dmul X3 hx 62 (hb hby at_61) (Jvm.Free.Fl.val64_no.mpr (by rw [vd2]; exact Jvm.FP.Core.Datum.noConfusion)) rfl ?_
  generalize g_d2 : (FP.dmul (4611686018427387904 : UInt64) dd) = d2
  rw [g_d2] at vd2
  have x1 := own_exp vd2 hM hN
  refine W.ddiv X3 hx 63 (hb hby at_62) (own_dr x1 hM hN) rfl ?_
  generalize g_ex : (FP.ddiv (FP.i2d (Int32.ofNat (na + M - nb))) d2) = ex
  rw [g_ex] at x1
  have eq1 := own_same r3 x1 hM hN
  refine W.dstore X3 hx 65 #[.val (.int p1), .val (.int p2), .val (.int (1048576 : Int32)), .val (.int (Int32.ofNat na)), .val (.int (Int32.ofNat nb)), .val (.ref o), .val (.double acc), .second, .val (.double ex), .second] (hb hby at_63) rfl rfl ?_
  refine W.dload X3 hx 67 (hb hby at_65) rfl rfl ?_
  refine W.dload X3 hx 69 (hb hby at_67) rfl rfl ?_
  refine W.dcmp X3 hx 70 (0 : Int32) (hb hby at_69) (dcmpV_eq eq1 (own_dr r3 hM hN) _) rfl ?_
  refine W.ifNe X3 hx 77 73 (hb hby at_70) (by decide) (by decide) rfl (fun q => ?_) (fun q => ?_)
  · exact absurd rfl q
  · skip
    refine W.iconst X3 hx 74 (1 : Int32) (hb hby at_73) rfl rfl ?_
    refine W.goto X3 hx 78 (hb hby at_74) (by decide) (by decide) ?_
    refine W.nret X3 hx hlk (t := .boolean) hret (by simp) (hb hby at_78) (by decide) (by decide) ?_
    exact ⟨rfl, (Fr.app (Fr.app (Fr.nil _) N2) (Fr.nil _))⟩
set_option maxRecDepth 65536 in
set_option maxHeartbeats 40000000 in
theorem comes_1 {Post : Tables → Env → Array Value → State → Outcome → State → Prop} (hpost : ∀ tb e args s v u, (limb_1_1.after args s (.returned v) u = true ∧ limb_1_2.after args s (.returned v) u = true ∧ True) → FrameEnd s (.returned v) u (Jvm.fieldLocs frame_1_writes args s ++ Jvm.arrayLocs frame_1_arrays args s ++ Jvm.staticLocs frame_1_statics s) 16 128 → Post tb e args s (.returned v) u) :
    ArmFor flags0 classFile x code maxLocals ret World_1 tables_1 room_1 Calls_1 rest_1 Pre_1 Post := by
  intro l hfl _ _ p e ha hc hk s m args below hf hA hF happ hP
  obtain ⟨hcalls, hrest, hpre⟩ := hP
  obtain ⟨-, -, -, hnamed, -, -, -, hat⟩ := (Spec.applies_iff hf).mp happ
  obtain ⟨hg, hn⟩ := and_e (Cond.before_iff.mp (show (Jvm.Cond.and given_1 narrow_1).before args s = true from hpre))
  obtain ⟨hcount, hg0⟩ := and_e hg
  obtain ⟨k0, hg1⟩ := and_e hg0
  have k1 := hg1
  obtain ⟨w0, w1, rfl⟩ : ∃ w0 w1 : Value, args = #[w0, w1] := by
    have hs : args.size = 2 := by simpa [Cond.value, given_1] using hcount
    obtain ⟨L⟩ := args
    match L, hs with
    | [w0, w1], _ => exact ⟨w0, w1, rfl⟩
  have hw := fun d (hd : d ∈ tables_1) => atoms_spec (ws := Jvm.Cond.code x code maxLocals ret :: tables_1) hat d (List.mem_cons_of_mem _ hd)
  have hfit : Fit s := fun {y c} hc i hi => by
    obtain ⟨ha, rfl⟩ := Array.getElem?_eq_some_iff.mp hc
    have q := List.all_eq_true.mp ((Array.all_eq_true_iff_forall_mem.mp hF) _ (Array.getElem_mem ha)) i (List.mem_range.mpr hi)
    simpa [Array.getElem?_eq_getElem hi] using q
  obtain ⟨i0, j0⟩ := is_v k0
  obtain rfl : w0 = (.int i0) := Option.some.inj j0
  obtain ⟨i1, j1⟩ := is_v k1
  obtain rfl : w1 = (.int i1) := Option.some.inj j1
  obtain ⟨n, o, h1, h2, h3, _, L, rfl, ⟨rfl, N⟩, hq⟩ := rm0 l s _ hw tables_1 i0 i1 s.heap s.heap.size (Nat.le_refl _) p e ha hc hk s m _ below hf ((Spec.applies_iff_loose hf).mp happ).1 ⟨rfl, State.Warmed39.refl s, rfl⟩ trivial
  refine ⟨n, _, h1, h2, h3, hpost _ _ _ _ _ _ ⟨Cond.after_iff.mpr rfl, Cond.after_iff.mpr (eq_i res_at (Term.int_eval (1)) rfl), trivial⟩ ⟨hq.1, hq.2.1, (hq.2.2.sift fun y hy => Or.inr (N y hy)).mono (by decide) (by decide)⟩⟩
theorem main_1_1 : Claimed_1_1 := comes_1 fun _ _ _ _ _ _ h hF => ⟨h.1, hF⟩
theorem main_1_2 : Claimed_1_2 := comes_1 fun _ _ _ _ _ _ h hF => ⟨h.2.1, hF⟩
end Jvm.Pilot.@@N@@
namespace Jvm.Pilot.@@N@@
open Jvm Jvm.ClassFile Sem Op Lib Jvm.Free Jvm.Stand Jvm.Pilot.@@N@@.Jvm.D
/-! MADE BY PROGRAM (witnessworld.py) out of the Statement's table words and the real class files: 9 classes; the members and pool entries that the words name. The judged class is class 1, her method 1. -/
namespace start1
open Jvm.ClassFile
def u (s : String) : CpInfo := .utf8 (stringToUtf16 s)
/-- a pool by its gaps: so many unusable entries, then the entry; so many at the end -/
def gap : Nat → List CpInfo → List CpInfo
  | 0, r => r
  | n + 1, r => .unusable :: gap n r
def poolList (es : List (Nat × CpInfo)) (last : Nat) : List CpInfo := es.foldr (fun e r => gap e.1 (e.2 :: r)) (gap last [])
def pool (es : List (Nat × CpInfo)) (last : Nat) : Array CpInfo := ⟨poolList es last⟩
def fileOf (pool : Array CpInfo) (this : Nat) (attrs : Array Attribute := #[]) (ms : Array MethodInfo := #[]) (fl : Nat := 33) (sup : Nat := 0) (ifs : Array Nat := #[]) (fds : Array FieldInfo := #[]) : ClassFile where
  minorVersion := 0
  majorVersion := 65
  constantPool := pool
  accessFlags := fl
  thisClass := this
  superClass := sup
  interfaces := ifs
  fields := fds
  methods := ms
  attributes := attrs
def plain (name : String) (sup : Option ClassId) : Class where
  name := name
  kind := .ordinary
  loader := none
  accessFlags := 33
  super := sup
  interfaces := #[]
  cf := none
  fields := #[]
  methods := #[]
  instanceTypes := #[]
  staticTypes := #[]
  resolved := #[]
  callSites := []
  init := .initialized
  statics := none
  mirror := none

def pool0 : Array CpInfo := pool [(5, u "<init>"), (0, u "()V"), (1, .class_ 10), (1, u "java/lang/Object")] 113

def k0c0 : Code := { maxStack := 0, maxLocals := 1, code := object_method_1_code, exceptionTable := #[], attributes := #[] }
def k0m0 : Method := { name := "<init>", desc := "()V", sig := { parameters := [], returnType := none }, accessFlags := 1, code := some k0c0 }
/-- java/lang/Object -/
def k0 : Class := { plain "java/lang/Object" none with
  accessFlags := 33
  interfaces := #[]
  cf := some (fileOf pool0 8 #[] #[{ accessFlags := 1, nameIndex := 5, descriptorIndex := 6, attributes := #[] }] 33 0 #[] #[])
  fields := #[]
  methods := #[k0m0]
  instanceTypes := #[]
  staticTypes := #[]
  resolved := Array.replicate 124 none
  statics := none }

def pool1 : Array CpInfo := pool [(2, .class_ 4), (1, u "java/lang/Object"), (0, u "<init>"), (0, u "()V"), (0, .integer 1048576), (0, .integer 2147483647), (0, .class_ 10), (0, u "com/example/camf/camf/AutoscalingModel$Rates"), (0, .methodref 9 12), (0, .nameAndType 5 13), (0, u "(DD)V"), (0, .methodref 9 15), (0, .nameAndType 16 17), (0, u "accuracy"), (0, u "()D"), (0, .double 4611686018427387904), (1, .class_ 21), (0, u "com/example/camf/camf/RatesAccuracyPinLaw"), (2, u "law"), (0, u "(II)Z")] 7

def k1m0 : Method := { name := "<init>", desc := "()V", sig := { parameters := [], returnType := none }, accessFlags := 2, code := none }
def k1c1 : Code := { maxStack := 8, maxLocals := 10, code := code, exceptionTable := #[], attributes := #[] }
def k1m1 : Method := { name := "law", desc := "(II)Z", sig := { parameters := [.int, .int], returnType := some .boolean }, accessFlags := 9, code := some k1c1 }
/-- com/example/camf/camf/RatesAccuracyPinLaw -/
def k1 : Class := { plain "com/example/camf/camf/RatesAccuracyPinLaw" (some 0) with
  accessFlags := 49
  interfaces := #[]
  cf := some (fileOf pool1 20 #[] #[{ accessFlags := 2, nameIndex := 5, descriptorIndex := 6, attributes := #[] }, { accessFlags := 9, nameIndex := 24, descriptorIndex := 25, attributes := #[] }] 49 2 #[] #[])
  fields := #[]
  methods := #[k1m0, k1m1]
  instanceTypes := #[]
  staticTypes := #[]
  resolved := Array.replicate 33 none
  statics := none }

def pool2 : Array CpInfo := pool [(1, .methodref 2 3), (0, .class_ 4), (0, .nameAndType 5 6), (0, u "java/lang/Object"), (0, u "<init>"), (0, u "()V"), (0, .fieldref 8 9), (0, .class_ 10), (0, .nameAndType 11 12), (0, u "com/example/camf/camf/AutoscalingModel$Rates"), (0, u "truePositiveRate"), (0, u "D"), (0, .fieldref 8 14), (0, .nameAndType 15 12), (0, u "falsePositiveRate"), (0, .double 4611686018427387904), (3, u "accuracy"), (0, u "()D"), (4, u "(DD)V"), (7, .class_ 35), (0, u "com/example/camf/camf/AutoscalingModel")] 16

def k2c0 : Code := { maxStack := 3, maxLocals := 5, code := prog_4_method_1_code, exceptionTable := #[], attributes := #[] }
def k2m0 : Method := { name := "<init>", desc := "(DD)V", sig := { parameters := [.double, .double], returnType := none }, accessFlags := 0, code := some k2c0 }
def k2c1 : Code := { maxStack := 4, maxLocals := 1, code := prog_4_method_4_code, exceptionTable := #[], attributes := #[] }
def k2m1 : Method := { name := "accuracy", desc := "()D", sig := { parameters := [], returnType := some .double }, accessFlags := 1, code := some k2c1 }
/-- com/example/camf/camf/AutoscalingModel$Rates -/
def k2 : Class := { plain "com/example/camf/camf/AutoscalingModel$Rates" (some 0) with
  accessFlags := 49
  interfaces := #[]
  cf := some (fileOf pool2 8 #[.nestHost 34] #[{ accessFlags := 0, nameIndex := 5, descriptorIndex := 26, attributes := #[] }, { accessFlags := 1, nameIndex := 20, descriptorIndex := 21, attributes := #[] }] 49 2 #[] #[{ accessFlags := 18, nameIndex := 11, descriptorIndex := 12, attributes := #[] }, { accessFlags := 18, nameIndex := 15, descriptorIndex := 12, attributes := #[] }])
  fields := #[{ name := "truePositiveRate", type := .double, accessFlags := 18, slot := 0, constantValue := 0 }, { name := "falsePositiveRate", type := .double, accessFlags := 18, slot := 1, constantValue := 0 }]
  methods := #[k2m0, k2m1]
  instanceTypes := #[.double, .double]
  staticTypes := #[]
  resolved := Array.replicate 52 none
  statics := none }

def pool3 : Array CpInfo := pool [(1, u "java/lang/Cloneable"), (0, .class_ 1), (0, u "java/lang/Object"), (0, .class_ 3)] 3

/-- java/lang/Cloneable -/
def k3 : Class := { plain "java/lang/Cloneable" (some 0) with
  accessFlags := 1537
  interfaces := #[]
  cf := some (fileOf pool3 2 #[] #[] 1537 4 #[] #[])
  fields := #[]
  methods := #[]
  instanceTypes := #[]
  staticTypes := #[]
  resolved := Array.replicate 8 none
  statics := none }

def pool4 : Array CpInfo := pool [(1, u "java/io/Serializable"), (0, .class_ 1), (0, u "java/lang/Object"), (0, .class_ 3)] 3

/-- java/io/Serializable -/
def k4 : Class := { plain "java/io/Serializable" (some 0) with
  accessFlags := 1537
  interfaces := #[]
  cf := some (fileOf pool4 2 #[] #[] 1537 4 #[] #[])
  fields := #[]
  methods := #[]
  instanceTypes := #[]
  staticTypes := #[]
  resolved := Array.replicate 8 none
  statics := none }

/-- the primitive byte -/
def k5 : Class := { plain "byte" none with kind := .primitive 'B', accessFlags := 0x411 }
/-- [B -/
def k6 : Class := { plain "[B" (some 0) with kind := .array 5 .byte, interfaces := #[3, 4], accessFlags := 1041 }

/-- the primitive int -/
def k7 : Class := { plain "int" none with kind := .primitive 'I', accessFlags := 0x411 }
/-- [I -/
def k8 : Class := { plain "[I" (some 0) with kind := .array 7 .int, interfaces := #[3, 4], accessFlags := 1041 }

def heap : Heap := #[]
def classes : Array Class := #[k0, k1, k2, k3, k4, k5, k6, k7, k8]
def interned : List (Array UInt16 × Addr) := []
def slotsUsed : Nat := 0
def theMethod : MethodId := ⟨1, 1⟩
def args0 : Array Value := #[.int 5, .int 7]
def aboutOver (below : List Frame) : State where
  vm := { classes := classes, interned := interned.toArray }
  heap := heap
  slotsUsed := slotsUsed
  threads := #[{ frames := .invoking theMethod args0 :: below }]
def below0 : List Frame := [.native { method := ⟨0, 0⟩, args := #[] }]
def about1 : State := aboutOver below0
def p0 : Program := .bare "" "" ""
def e0 : Env := launch0.env 0 0 0
theorem w_frames : about1.frames = Frame.invoking theMethod args0 :: below0 := rfl
set_option maxRecDepth 65536 in
theorem w_args : argsFit about1.vm theMethod args0 = true := by decide +kernel
set_option maxRecDepth 65536 in
theorem w_heap : heapFits about1 = true := by decide +kernel
set_option maxRecDepth 65536 in
theorem w_runnable : about1.curStatus? = some .runnable := by decide +kernel
set_option maxRecDepth 65536 in
theorem w_alone : about1.alone = true := by decide +kernel
set_option maxRecDepth 65536 in
theorem w_named : about1.methodNamed? x = some theMethod := by decide +kernel
set_option maxRecDepth 65536 in
theorem w_hears : about1.hears theMethod below0 = true := by decide +kernel
set_option maxRecDepth 65536 in
theorem w_ripe : about1.ripe theMethod args0 below0 = true := by decide +kernel
theorem w_running : about1.status = .running := rfl
set_option maxRecDepth 65536 in
theorem w_room : about1.hasRoom e0.platform room_1 = true :=
  launch0.hasRoom_least _ room_1 (by decide +kernel) (by decide +kernel) (by decide +kernel) (by decide +kernel) (by decide +kernel) (by decide +kernel)
theorem allAtoms_all (ts : List Jvm.Cond) (a : Array Jvm.Value) (st : Jvm.State) : (allAtoms ts).before a st = ts.all (fun c => c.before a st) := by
  induction ts with
  | nil => rfl
  | cons c t ih =>
    show (Jvm.Cond.and c (allAtoms t)).before a st = _
    rw [Jvm.Cond.before_and, ih, List.all_cons]
def words1 : List Jvm.Cond := Jvm.Cond.code x code maxLocals ret :: tables_1
/-- a 'code' word, met by the world's own term for the bytes: nothing is compared byte by byte -/
theorem code_word {y : MethodName} {bytes : ByteArray} {mx : Nat} {rt : Option FieldType} {a : Array Value} {s : State} {m : MethodId} {meth : Method} {c : Code} (h1 : s.methodNamed? y = some m) (h2 : s.vm.method? m = some meth) (h3 : meth.code = some c) (h4 : c.code = bytes)
    (h5 : (c.maxLocals == mx && c.exceptionTable.isEmpty && decide (c.maxStack ≤ mostOperands) && decide (meth.sig.returnType = rt) && !meth.locks && decide (parseMethodDescriptor y.desc = some meth.sig)) = true) : (Jvm.Cond.code y bytes mx rt).before a s = true := by
  simp only [Bool.and_eq_true, beq_iff_eq, Bool.not_eq_true', decide_eq_true_eq] at h5
  obtain ⟨⟨⟨⟨⟨g1, g2⟩, g3⟩, g4⟩, g5⟩, g6⟩ := h5
  simp [Cond.before, Cond.holds, Cond.value, h1, h2, h3, h4, g1, g2, g3, g4, g5, g6]
def isCode : Jvm.Cond → Bool
  | .code _ _ _ _ => true
  | _ => false
theorem all_split {L : List Jvm.Cond} {P : Jvm.Cond → Bool} (h1 : L.all (fun c => isCode c || P c) = true) (h2 : ∀ c ∈ L.filter isCode, P c = true) : L.all P = true := by
  refine List.all_eq_true.mpr fun c hc => ?_
  have h := List.all_eq_true.mp h1 c hc
  rcases Bool.eq_false_or_eq_true (isCode c) with hi | hi
  · exact h2 c (List.mem_filter.mpr ⟨hc, hi⟩)
  · simpa [hi] using h
set_option maxRecDepth 65536 in
theorem w_c0 : (Jvm.Cond.code x code maxLocals ret).before args0 about1 = true := code_word (m := ⟨1, 1⟩) (meth := k1m1) (c := k1c1) (by decide +kernel) rfl rfl rfl (by decide +kernel)
set_option maxRecDepth 65536 in
theorem w_c1 : (Jvm.Cond.code ({ cls := "com/example/camf/camf/AutoscalingModel$Rates", name := "<init>", desc := "(DD)V" } : Jvm.MethodName) prog_4_method_1_code (5 : Nat) (Option.none : Option Jvm.ClassFile.FieldType)).before args0 about1 = true := code_word (m := ⟨2, 0⟩) (meth := k2m0) (c := k2c0) (by decide +kernel) rfl rfl rfl (by decide +kernel)
set_option maxRecDepth 65536 in
theorem w_c2 : (Jvm.Cond.code ({ cls := "java/lang/Object", name := "<init>", desc := "()V" } : Jvm.MethodName) object_method_1_code (1 : Nat) (Option.none : Option Jvm.ClassFile.FieldType)).before args0 about1 = true := code_word (m := ⟨0, 0⟩) (meth := k0m0) (c := k0c0) (by decide +kernel) rfl rfl rfl (by decide +kernel)
set_option maxRecDepth 65536 in
theorem w_c3 : (Jvm.Cond.code ({ cls := "com/example/camf/camf/AutoscalingModel$Rates", name := "accuracy", desc := "()D" } : Jvm.MethodName) prog_4_method_4_code (1 : Nat) (Option.some Jvm.ClassFile.FieldType.double)).before args0 about1 = true := code_word (m := ⟨2, 1⟩) (meth := k2m1) (c := k2c1) (by decide +kernel) rfl rfl rfl (by decide +kernel)
def codes1 : List Jvm.Cond := [Jvm.Cond.code x code maxLocals ret, Jvm.Cond.code ({ cls := "com/example/camf/camf/AutoscalingModel$Rates", name := "<init>", desc := "(DD)V" } : Jvm.MethodName) prog_4_method_1_code (5 : Nat) (Option.none : Option Jvm.ClassFile.FieldType), Jvm.Cond.code ({ cls := "java/lang/Object", name := "<init>", desc := "()V" } : Jvm.MethodName) object_method_1_code (1 : Nat) (Option.none : Option Jvm.ClassFile.FieldType), Jvm.Cond.code ({ cls := "com/example/camf/camf/AutoscalingModel$Rates", name := "accuracy", desc := "()D" } : Jvm.MethodName) prog_4_method_4_code (1 : Nat) (Option.some Jvm.ClassFile.FieldType.double)]
set_option maxRecDepth 65536 in
theorem codes_eq : words1.filter isCode = codes1 := rfl
theorem w_codes : ∀ c ∈ words1.filter isCode, c.before args0 about1 = true := by
  rw [codes_eq]
  intro c hc
  simp only [codes1, List.mem_cons, List.not_mem_nil, or_false] at hc
  rcases hc with rfl | rfl | rfl | rfl
  · exact w_c0
  · exact w_c1
  · exact w_c2
  · exact w_c3
set_option maxRecDepth 65536 in
theorem w_t1 : words1.all (fun c => isCode c || c.before args0 about1) = true := by decide +kernel
theorem w_tables : (allAtoms (Jvm.Cond.code x code maxLocals ret :: tables_1)).before args0 about1 = true := by
  rw [allAtoms_all]
  show words1.all (fun c => c.before args0 about1) = true
  refine all_split ?_ w_codes
  rw [w_t1]
set_option maxRecDepth 65536 in
theorem w_case : (Jvm.Cond.and given_1 narrow_1).before args0 about1 = true := by decide +kernel
theorem w_applies : (headSpec (Jvm.Cond.code x code maxLocals ret :: tables_1) room_1).applies x e0.platform about1 = true :=
  (Spec.applies_iff w_frames).mpr ⟨w_running, w_runnable, w_alone, w_named, w_hears, w_ripe, w_room, w_tables⟩
theorem atStart : AtStart classFile x code maxLocals ret World_1 tables_1 room_1 Calls_1 rest_1 Pre_1 launch0 p0 e0 about1 theMethod args0 below0 :=
  ⟨lists_1, trivial, launch0.admits_env _ _ _, launch0.least_env, fairChoices_fair.cas, fairChoices_fair.clock, w_frames, w_args, w_heap, w_applies, trivial, trivial, w_case⟩
end start1
theorem witness_1 : WitnessClaimed_1 := ⟨start1.p0, start1.e0, start1.about1, start1.theMethod, start1.args0, start1.below0, start1.atStart⟩
end Jvm.Pilot.@@N@@
