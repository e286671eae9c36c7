import JvmDerived
import JvmDerived.Pilot.@@N@@Statement
import JvmDerived.Pilot.@@N@@Code
set_option linter.unusedVariables false
set_option linter.unusedSimpArgs false
namespace Jvm.Pilot.@@N@@
open Jvm Jvm.ClassFile Sem Op Lib Jvm.Free Jvm.Stand Jvm.LawKit Jvm.RoadKit Bundle Jvm.Pilot.@@N@@.Jvm.D
/-! OWN KIT: the walk's steps in one form: 'own_A' where the run stands, 'own_E' that it ends as G says. -/
def own_E (p : Program) (e : Env) (below : List Frame) (G : Outcome → State → Prop) (A : State) : Prop := ∃ s₂ o, Steps p.tables e below A s₂ ∧ s₂.status = .running ∧ Ended s₂ below o ∧ G o s₂
def own_A (l : Launch) (Z : State) (own : String) (cb : ByteArray) (ml n0 : Nat) (p : Program) (e : Env) (R : Room) (s : State) (m : MethodId) (args : Array Value) (below : List Frame) (meth : Method) (c : Code) (T : State) (h : Heap) (locs : List Loc) (cells slots : Nat) : Prop :=
  Stand p l e R s m args below meth c T locs cells slots ∧ p.tables.exec = Jvm.exec ∧ Z.Warmed39 s.vm ∧ c.code = cb ∧ c.maxLocals = ml ∧ s.vm.findClass own = some m.cls ∧ T.heap = h ∧ Fr n0 locs ∧ n0 ≤ h.size ∧ meth.locks = false
def own_G (R : Room) (s : State) (n0 : Nat) (Q : Option Value → Heap → Prop) (o : Outcome) (U : State) : Prop := ∃ v L, o = .returned v ∧ (Q v U.heap ∧ Fr n0 L ∧ n0 ≤ U.heap.size) ∧ FrameEnd s o U L R.cells R.slots
def own_Con (l : Launch) (Z : State) (y : MethodName) (cb : ByteArray) (ml : Nat) (ret : Option FieldType) (rm : Room) (as' : Array Value) (h0 : Heap) (n0 : Nat) (Q : Option Value → Heap → Prop) : Prop :=
  ∀ ws, MetFree l y (head1 (Jvm.Cond.code y cb ml ret :: ws) rm) (fun a U => a = as' ∧ Z.Warmed39 U.vm ∧ U.heap = h0) (fun _ _ _ _ _ => True) (fun _ U o U' => ∃ v L, o = .returned v ∧ (Q v U'.heap ∧ Fr n0 L ∧ n0 ≤ U'.heap.size) ∧ FrameEnd U o U' L rm.cells rm.slots)
theorem own_b255 (x : Int32) : x &&& 255 = x.toInt8.toInt32 &&& 255 := by
  apply Int32.toBitVec_inj.mp
  rw [Int32.toBitVec_and, Int32.toBitVec_and]
  show x.toBitVec &&& (BitVec.ofNat 32 255) = (x.toBitVec.signExtend 8).signExtend 32 &&& (BitVec.ofNat 32 255)
  apply BitVec.eq_of_getLsbD_eq
  intro i hi
  rw [BitVec.getLsbD_and, BitVec.getLsbD_and, BitVec.getLsbD_signExtend, BitVec.getLsbD_signExtend]
  by_cases h : i < 8
  · simp [h, hi]
  · have : ((BitVec.ofNat 32 255)).getLsbD i = false := by
      have h2 : 8 ≤ i := by omega
      have : ((BitVec.ofNat 32 255)).getLsbD i = Nat.testBit 255 i := by simp [BitVec.getLsbD]
      rw [this]; exact Nat.testBit_lt_two_pow (Nat.lt_of_lt_of_le (by decide : 255 < 2^8) (Nat.pow_le_pow_right (by decide) h2))
    simp [this]
theorem own_lremE (x y : Int64) : x - (x / y) * y = x % y := by
  apply Int64.toInt_inj.mp
  have h1 := Int64.le_toInt (x % y)
  have h2 := Int64.toInt_lt (x % y)
  rw [Int64.toInt_sub, Int64.toInt_mul, Int64.toInt_div, Int.bmod_mul_bmod, Int.sub_bmod_bmod, Int.mul_comm (x.toInt.tdiv y.toInt), ← Int.tmod_def, ← Int64.toInt_mod]
  exact Int.bmod_eq_of_le_mul_two (by omega) (by omega)
theorem own_addc (x a b c : Int32) (h : a + b = c) : (x + a) + b = x + c := by rw [Int32.add_assoc, h]
theorem own_nb (t : Int32) : nar .byte (t.toInt8.toInt32) = t.toInt8.toInt32 := by
  show (t.toInt8.toInt32).toInt8.toInt32 = t.toInt8.toInt32
  simp
section OwnKit
variable {l : Launch} {Z : State} {a0 : Array Value} {own : String} {cb : ByteArray} {ml n0 : Nat} {p : Program} {e : Env} {R : Room} {s : State} {m : MethodId} {args : Array Value} {below : List Frame} {meth : Method} {c : Code} {T : State} {h h' : Heap} {locs : List Loc} {cells slots : Nat} {G : Outcome → State → Prop} {pc pc' : Nat} {Ls Ls' : Array Slot} {S : List Value}
theorem own_go {A B : State} (h : ∀ t, Steps p.tables e below B t → Steps p.tables e below A t) (k : own_E p e below G B) : own_E p e below G A := by
  obtain ⟨s₂, o, h1, r⟩ := k; exact ⟨s₂, o, h _ h1, r⟩
theorem own_enter {y : MethodName} {ret : Option FieldType} {as' : Array Value} {h0 : Heap} {Q : Option Value → Heap → Prop} (hpl : plainFor y = true) (hsz : n0 ≤ h0.size) (hef : ∀ m, entryFrame m as' ml = mkF m 0 Ls [])
    (k : ∀ p e s m below meth c T, own_A l Z y.cls cb ml n0 p e R s m as' below meth c T h0 [] 0 0 → meth.sig.returnType = ret → meth.name = y.name → own_E p e below (own_G R s n0 Q) (T.setTop (mkF m 0 Ls []))) : own_Con l Z y cb ml ret R as' h0 n0 Q := by
  intro ws
  refine MetFree.of_bodySF hpl hisR ?_
  intro p e s m args below meth c s₁ Bd hml0 hP hK
  obtain ⟨rfl, hZ, hh⟩ := hP
  have e0 : s₁.heap = h0 := by rw [← hh, Bd.state]; rfl
  have K := k p e s m below meth c s₁ ⟨Stand.of_body Bd, Bd.exec, hZ, Bd.bytes, hml0, findClass_of_methodNamed Bd.named, e0, Fr.nil n0, hsz, Bd.notSynchronized⟩ Bd.returns (name_of_methodNamed Bd.named Bd.method).1
  obtain ⟨s₂, o, h1, h2, h3, h4⟩ := K
  exact ⟨s₂, o, castTop (hef m) h1, h2, h3, h4⟩
theorem own_iret (X : own_A l Z own cb ml n0 p e R s m args below meth c T h locs cells slots) {t : FieldType} {z w : Int32} {Q : Option Value → Heap → Prop} (hr : meth.sig.returnType = some t) (ht : t = .int ∨ t = .boolean ∨ t = .byte ∨ t = .char ∨ t = .short) (hd : decode cb pc = .ok (.ireturn, 1)) (hz : nar t z = w) (hc : cells ≤ R.cells) (hs : slots ≤ R.slots) (hQ : Q (some (.int w)) h) :
    own_E p e below (own_G R s n0 Q) (T.setTop (mkF m pc Ls (.int z :: S))) := by
  obtain ⟨X, hx, hZ, hby, hml, hown, rfl, N, hsz, hlk⟩ := X
  subst hz
  obtain ⟨fs, hl, hrun, hended, hW, hsame⟩ := X.leave (v := some (.int (nar t z))) (fun q => by rw [hr] at q; cases q) hlk
  refine ⟨_, _, ?_, hrun, hended, _, locs, rfl, ⟨hQ, N, hsz⟩, ⟨_, rfl⟩, hW, hsame.mono hc hs⟩
  rcases ht with rfl | ht
  · exact retOut X hx hr rfl (Or.inl ⟨rfl, Or.inl rfl, z, rfl⟩) (hb hby hd) hl
  · exact retN X hx hr ht (hb hby hd) hl
theorem own_lret (X : own_A l Z own cb ml n0 p e R s m args below meth c T h locs cells slots) {z : Int64} {Q : Option Value → Heap → Prop} (hr : meth.sig.returnType = some .long) (hd : decode cb pc = .ok (.lreturn, 1)) (hc : cells ≤ R.cells) (hs : slots ≤ R.slots) (hQ : Q (some (.long z)) h) :
    own_E p e below (own_G R s n0 Q) (T.setTop (mkF m pc Ls (.long z :: S))) := by
  obtain ⟨X, hx, hZ, hby, hml, hown, rfl, N, hsz, hlk⟩ := X
  obtain ⟨fs, hl, hrun, hended, hW, hsame⟩ := X.leave (v := some (.long z)) (fun q => by rw [hr] at q; cases q) hlk
  exact ⟨_, _, retOut X hx hr rfl (Or.inr (Or.inl ⟨rfl, rfl, z, rfl⟩)) (hb hby hd) hl, hrun, hended, _, locs, rfl, ⟨hQ, N, hsz⟩, ⟨_, rfl⟩, hW, hsame.mono hc hs⟩
theorem own_aret (X : own_A l Z own cb ml n0 p e R s m args below meth c T h locs cells slots) {t : FieldType} {v : Value} {Q : Option Value → Heap → Prop} (hr : meth.sig.returnType = some t) (ht : t.isReference = true) (hv : v.isRef = true) (hn : narrow t v = v) (hd : decode cb pc = .ok (.areturn, 1)) (hc : cells ≤ R.cells) (hs : slots ≤ R.slots) (hQ : Q (some v) h) :
    own_E p e below (own_G R s n0 Q) (T.setTop (mkF m pc Ls (v :: S))) := by
  obtain ⟨X, hx, hZ, hby, hml, hown, rfl, N, hsz, hlk⟩ := X
  obtain ⟨fs, hl, hrun, hended, hW, hsame⟩ := X.leave (v := some v) (fun q => by rw [hr] at q; cases q) hlk
  exact ⟨_, _, retOut X hx hr hn (Or.inr (Or.inr (Or.inr (Or.inr ⟨rfl, ht, hv⟩)))) (hb hby hd) hl, hrun, hended, _, locs, rfl, ⟨hQ, N, hsz⟩, ⟨_, rfl⟩, hW, hsame.mono hc hs⟩
theorem own_vret (X : own_A l Z own cb ml n0 p e R s m args below meth c T h locs cells slots) {Q : Option Value → Heap → Prop} (hr : meth.sig.returnType = none) (hd : decode cb pc = .ok (.return_, 1)) (hc : cells ≤ R.cells) (hs : slots ≤ R.slots) (hQ : Q none h) :
    own_E p e below (own_G R s n0 Q) (T.setTop (mkF m pc Ls [])) := by
  obtain ⟨X, hx, hZ, hby, hml, hown, rfl, N, hsz, hlk⟩ := X
  obtain ⟨fs, hl, hrun, hended, hW, hsame⟩ := X.leave (v := none) (fun _ => rfl) hlk
  exact ⟨_, _, X.returnOut hx hr (hb hby hd) hl, hrun, hended, _, locs, rfl, ⟨hQ, N, hsz⟩, ⟨_, rfl⟩, hW, hsame.mono hc hs⟩
theorem own_iloadN (X : own_A l Z own cb ml n0 p e R s m args below meth c T h locs cells slots) {i : Fin 4} {v : Int32} (hd : decode cb pc = .ok (.iload_n i, 1)) (hp : pc + 1 = pc') (hl : Ls[i.val]? = some (.val (.int v))) (k : own_E p e below G (T.setTop (mkF m pc' Ls (.int v :: S)))) : own_E p e below G (T.setTop (mkF m pc Ls S)) := by
  subst hp; exact own_go (fun _ => XS.iloadN X.1.here X.2.1 rfl (hb X.2.2.2.1 hd) hl) k
theorem own_iload (X : own_A l Z own cb ml n0 p e R s m args below meth c T h locs cells slots) {i : Nat} {v : Int32} (hd : decode cb pc = .ok (.iload i, 2)) (hp : pc + 2 = pc') (hl : Ls[i]? = some (.val (.int v))) (k : own_E p e below G (T.setTop (mkF m pc' Ls (.int v :: S)))) : own_E p e below G (T.setTop (mkF m pc Ls S)) := by
  subst hp; exact own_go (fun _ => XS.iload X.1.here X.2.1 rfl (hb X.2.2.2.1 hd) hl) k
theorem own_istoreN (X : own_A l Z own cb ml n0 p e R s m args below meth c T h locs cells slots) {i : Fin 4} {x y : Int32} (hd : decode cb pc = .ok (.istore_n i, 1)) (hp : pc + 1 = pc') (hv : x = y) (hl : storeLocals Ls i.val (.int y) = some Ls') (k : own_E p e below G (T.setTop (mkF m pc' Ls' S))) : own_E p e below G (T.setTop (mkF m pc Ls (.int x :: S))) := by
  subst hp; subst hv; exact own_go (fun _ => XS.istoreN X.1.here X.2.1 rfl (hb X.2.2.2.1 hd) rfl hl) k
theorem own_istore (X : own_A l Z own cb ml n0 p e R s m args below meth c T h locs cells slots) {i : Nat} {x y : Int32} (hd : decode cb pc = .ok (.istore i, 2)) (hp : pc + 2 = pc') (hv : x = y) (hl : storeLocals Ls i (.int y) = some Ls') (k : own_E p e below G (T.setTop (mkF m pc' Ls' S))) : own_E p e below G (T.setTop (mkF m pc Ls (.int x :: S))) := by
  subst hp; subst hv; exact own_go (fun _ => XS.istore X.1.here X.2.1 rfl (hb X.2.2.2.1 hd) rfl hl) k
theorem own_lloadN (X : own_A l Z own cb ml n0 p e R s m args below meth c T h locs cells slots) {i : Fin 4} {v : Int64} (hd : decode cb pc = .ok (.lload_n i, 1)) (hp : pc + 1 = pc') (hl : Ls[i.val]? = some (.val (.long v))) (k : own_E p e below G (T.setTop (mkF m pc' Ls (.long v :: S)))) : own_E p e below G (T.setTop (mkF m pc Ls S)) := by
  subst hp; exact own_go (fun _ => XS.lloadN X.1.here X.2.1 rfl (hb X.2.2.2.1 hd) hl) k
theorem own_lload (X : own_A l Z own cb ml n0 p e R s m args below meth c T h locs cells slots) {i : Nat} {v : Int64} (hd : decode cb pc = .ok (.lload i, 2)) (hp : pc + 2 = pc') (hl : Ls[i]? = some (.val (.long v))) (k : own_E p e below G (T.setTop (mkF m pc' Ls (.long v :: S)))) : own_E p e below G (T.setTop (mkF m pc Ls S)) := by
  subst hp; exact own_go (fun _ => XS.lload X.1.here X.2.1 rfl (hb X.2.2.2.1 hd) hl) k
theorem own_lstoreN (X : own_A l Z own cb ml n0 p e R s m args below meth c T h locs cells slots) {i : Fin 4} {x y : Int64} (hd : decode cb pc = .ok (.lstore_n i, 1)) (hp : pc + 1 = pc') (hv : x = y) (hl : storeLocals Ls i.val (.long y) = some Ls') (k : own_E p e below G (T.setTop (mkF m pc' Ls' S))) : own_E p e below G (T.setTop (mkF m pc Ls (.long x :: S))) := by
  subst hp; subst hv; exact own_go (fun _ => XS.lstoreN X.1.here X.2.1 rfl (hb X.2.2.2.1 hd) rfl hl) k
theorem own_lstore (X : own_A l Z own cb ml n0 p e R s m args below meth c T h locs cells slots) {i : Nat} {x y : Int64} (hd : decode cb pc = .ok (.lstore i, 2)) (hp : pc + 2 = pc') (hv : x = y) (hl : storeLocals Ls i (.long y) = some Ls') (k : own_E p e below G (T.setTop (mkF m pc' Ls' S))) : own_E p e below G (T.setTop (mkF m pc Ls (.long x :: S))) := by
  subst hp; subst hv; exact own_go (fun _ => XS.lstore X.1.here X.2.1 rfl (hb X.2.2.2.1 hd) rfl hl) k
theorem own_aloadN (X : own_A l Z own cb ml n0 p e R s m args below meth c T h locs cells slots) {i : Fin 4} {v : Value} (hd : decode cb pc = .ok (.aload_n i, 1)) (hp : pc + 1 = pc') (hl : Ls[i.val]? = some (.val v)) (hr : v.isRef = true) (k : own_E p e below G (T.setTop (mkF m pc' Ls (v :: S)))) : own_E p e below G (T.setTop (mkF m pc Ls S)) := by
  subst hp; exact own_go (fun _ => XS.aloadN X.1.here X.2.1 rfl (hb X.2.2.2.1 hd) hl hr) k
theorem own_aload (X : own_A l Z own cb ml n0 p e R s m args below meth c T h locs cells slots) {i : Nat} {v : Value} (hd : decode cb pc = .ok (.aload i, 2)) (hp : pc + 2 = pc') (hl : Ls[i]? = some (.val v)) (hr : v.isRef = true) (k : own_E p e below G (T.setTop (mkF m pc' Ls (v :: S)))) : own_E p e below G (T.setTop (mkF m pc Ls S)) := by
  subst hp; exact own_go (fun _ => XS.aload X.1.here X.2.1 rfl (hb X.2.2.2.1 hd) hl hr) k
theorem own_astoreN (X : own_A l Z own cb ml n0 p e R s m args below meth c T h locs cells slots) {i : Fin 4} {v : Value} (hd : decode cb pc = .ok (.astore_n i, 1)) (hp : pc + 1 = pc') (hr : v.isRef = true) (hl : storeLocals Ls i.val v = some Ls') (k : own_E p e below G (T.setTop (mkF m pc' Ls' S))) : own_E p e below G (T.setTop (mkF m pc Ls (v :: S))) := by
  subst hp; exact own_go (fun _ => XS.astoreN X.1.here X.2.1 rfl (hb X.2.2.2.1 hd) rfl hr hl) k
theorem own_astore (X : own_A l Z own cb ml n0 p e R s m args below meth c T h locs cells slots) {i : Nat} {v : Value} (hd : decode cb pc = .ok (.astore i, 2)) (hp : pc + 2 = pc') (hr : v.isRef = true) (hl : storeLocals Ls i v = some Ls') (k : own_E p e below G (T.setTop (mkF m pc' Ls' S))) : own_E p e below G (T.setTop (mkF m pc Ls (v :: S))) := by
  subst hp; exact own_go (fun _ => XS.astore X.1.here X.2.1 rfl (hb X.2.2.2.1 hd) rfl hr hl) k
theorem own_iconst (X : own_A l Z own cb ml n0 p e R s m args below meth c T h locs cells slots) {i : Int} {z : Int32} (hd : decode cb pc = .ok (.iconst i, 1)) (hp : pc + 1 = pc') (hz : Int32.ofInt i = z) (k : own_E p e below G (T.setTop (mkF m pc' Ls (.int z :: S)))) : own_E p e below G (T.setTop (mkF m pc Ls S)) := by
  subst hp; subst hz; exact own_go (fun _ => XS.iconst X.1.here X.2.1 rfl (hb X.2.2.2.1 hd)) k
theorem own_bipush (X : own_A l Z own cb ml n0 p e R s m args below meth c T h locs cells slots) {i : Int} {z : Int32} (hd : decode cb pc = .ok (.bipush i, 2)) (hp : pc + 2 = pc') (hz : (Int8.ofInt i).toInt32 = z) (k : own_E p e below G (T.setTop (mkF m pc' Ls (.int z :: S)))) : own_E p e below G (T.setTop (mkF m pc Ls S)) := by
  subst hp; subst hz; exact own_go (fun _ => XS.bipush X.1.here X.2.1 rfl (hb X.2.2.2.1 hd)) k
theorem own_sipush (X : own_A l Z own cb ml n0 p e R s m args below meth c T h locs cells slots) {i : Int} {z : Int32} (hd : decode cb pc = .ok (.sipush i, 3)) (hp : pc + 3 = pc') (hz : (Int16.ofInt i).toInt32 = z) (k : own_E p e below G (T.setTop (mkF m pc' Ls (.int z :: S)))) : own_E p e below G (T.setTop (mkF m pc Ls S)) := by
  subst hp; subst hz; exact own_go (fun _ => XS.sipush X.1.here X.2.1 rfl (hb X.2.2.2.1 hd)) k
theorem own_lconst (X : own_A l Z own cb ml n0 p e R s m args below meth c T h locs cells slots) {i : Fin 2} {z : Int64} (hd : decode cb pc = .ok (.lconst i, 1)) (hp : pc + 1 = pc') (hz : Int64.ofNat i = z) (k : own_E p e below G (T.setTop (mkF m pc' Ls (.long z :: S)))) : own_E p e below G (T.setTop (mkF m pc Ls S)) := by
  subst hp; subst hz; exact own_go (fun _ => XS.lconst X.1.here X.2.1 rfl (hb X.2.2.2.1 hd)) k
theorem own_anull (X : own_A l Z own cb ml n0 p e R s m args below meth c T h locs cells slots)  (hd : decode cb pc = .ok (.aconst_null, 1)) (hp : pc + 1 = pc') (k : own_E p e below G (T.setTop (mkF m pc' Ls (.null :: S)))) : own_E p e below G (T.setTop (mkF m pc Ls S)) := by
  subst hp; exact own_go (fun _ => XS.aconstNull X.1.here X.2.1 rfl (hb X.2.2.2.1 hd)) k
theorem own_iadd (X : own_A l Z own cb ml n0 p e R s m args below meth c T h locs cells slots) {x y z : Int32} (hd : decode cb pc = .ok (.iadd, 1)) (hp : pc + 1 = pc') (hz : x + y = z) (k : own_E p e below G (T.setTop (mkF m pc' Ls (.int z :: S)))) : own_E p e below G (T.setTop (mkF m pc Ls (.int y :: .int x :: S))) := by
  subst hp; subst hz; exact own_go (fun _ => XS.iadd X.1.here X.2.1 rfl (hb X.2.2.2.1 hd) rfl) k
theorem own_isub (X : own_A l Z own cb ml n0 p e R s m args below meth c T h locs cells slots) {x y z : Int32} (hd : decode cb pc = .ok (.isub, 1)) (hp : pc + 1 = pc') (hz : x - y = z) (k : own_E p e below G (T.setTop (mkF m pc' Ls (.int z :: S)))) : own_E p e below G (T.setTop (mkF m pc Ls (.int y :: .int x :: S))) := by
  subst hp; subst hz; exact own_go (fun _ => XS.isub X.1.here X.2.1 rfl (hb X.2.2.2.1 hd) rfl) k
theorem own_imul (X : own_A l Z own cb ml n0 p e R s m args below meth c T h locs cells slots) {x y z : Int32} (hd : decode cb pc = .ok (.imul, 1)) (hp : pc + 1 = pc') (hz : x * y = z) (k : own_E p e below G (T.setTop (mkF m pc' Ls (.int z :: S)))) : own_E p e below G (T.setTop (mkF m pc Ls (.int y :: .int x :: S))) := by
  subst hp; subst hz; exact own_go (fun _ => XS.imul X.1.here X.2.1 rfl (hb X.2.2.2.1 hd) rfl) k
theorem own_iand (X : own_A l Z own cb ml n0 p e R s m args below meth c T h locs cells slots) {x y z : Int32} (hd : decode cb pc = .ok (.iand, 1)) (hp : pc + 1 = pc') (hz : x &&& y = z) (k : own_E p e below G (T.setTop (mkF m pc' Ls (.int z :: S)))) : own_E p e below G (T.setTop (mkF m pc Ls (.int y :: .int x :: S))) := by
  subst hp; subst hz; exact own_go (fun _ => XS.iand X.1.here X.2.1 rfl (hb X.2.2.2.1 hd) rfl) k
theorem own_ior (X : own_A l Z own cb ml n0 p e R s m args below meth c T h locs cells slots) {x y z : Int32} (hd : decode cb pc = .ok (.ior, 1)) (hp : pc + 1 = pc') (hz : x ||| y = z) (k : own_E p e below G (T.setTop (mkF m pc' Ls (.int z :: S)))) : own_E p e below G (T.setTop (mkF m pc Ls (.int y :: .int x :: S))) := by
  subst hp; subst hz; exact own_go (fun _ => XS.ior X.1.here X.2.1 rfl (hb X.2.2.2.1 hd) rfl) k
theorem own_ixor (X : own_A l Z own cb ml n0 p e R s m args below meth c T h locs cells slots) {x y z : Int32} (hd : decode cb pc = .ok (.ixor, 1)) (hp : pc + 1 = pc') (hz : x ^^^ y = z) (k : own_E p e below G (T.setTop (mkF m pc' Ls (.int z :: S)))) : own_E p e below G (T.setTop (mkF m pc Ls (.int y :: .int x :: S))) := by
  subst hp; subst hz; exact own_go (fun _ => XS.ixor X.1.here X.2.1 rfl (hb X.2.2.2.1 hd) rfl) k
theorem own_ishl (X : own_A l Z own cb ml n0 p e R s m args below meth c T h locs cells slots) {x y z : Int32} (hd : decode cb pc = .ok (.ishl, 1)) (hp : pc + 1 = pc') (hz : x <<< (y &&& 31) = z) (k : own_E p e below G (T.setTop (mkF m pc' Ls (.int z :: S)))) : own_E p e below G (T.setTop (mkF m pc Ls (.int y :: .int x :: S))) := by
  subst hp; subst hz; exact own_go (fun _ => XS.ishl X.1.here X.2.1 rfl (hb X.2.2.2.1 hd) rfl) k
theorem own_ishr (X : own_A l Z own cb ml n0 p e R s m args below meth c T h locs cells slots) {x y z : Int32} (hd : decode cb pc = .ok (.ishr, 1)) (hp : pc + 1 = pc') (hz : x >>> (y &&& 31) = z) (k : own_E p e below G (T.setTop (mkF m pc' Ls (.int z :: S)))) : own_E p e below G (T.setTop (mkF m pc Ls (.int y :: .int x :: S))) := by
  subst hp; subst hz; exact own_go (fun _ => XS.ishr X.1.here X.2.1 rfl (hb X.2.2.2.1 hd) rfl) k
theorem own_iushr (X : own_A l Z own cb ml n0 p e R s m args below meth c T h locs cells slots) {x y z : Int32} (hd : decode cb pc = .ok (.iushr, 1)) (hp : pc + 1 = pc') (hz : (x.toUInt32 >>> (y &&& 31).toUInt32).toInt32 = z) (k : own_E p e below G (T.setTop (mkF m pc' Ls (.int z :: S)))) : own_E p e below G (T.setTop (mkF m pc Ls (.int y :: .int x :: S))) := by
  subst hp; subst hz; exact own_go (fun _ => XS.iushr X.1.here X.2.1 rfl (hb X.2.2.2.1 hd) rfl) k
theorem own_ladd (X : own_A l Z own cb ml n0 p e R s m args below meth c T h locs cells slots) {x y z : Int64} (hd : decode cb pc = .ok (.ladd, 1)) (hp : pc + 1 = pc') (hz : x + y = z) (k : own_E p e below G (T.setTop (mkF m pc' Ls (.long z :: S)))) : own_E p e below G (T.setTop (mkF m pc Ls (.long y :: .long x :: S))) := by
  subst hp; subst hz; exact own_go (fun _ => XS.ladd X.1.here X.2.1 rfl (hb X.2.2.2.1 hd) rfl) k
theorem own_lsub (X : own_A l Z own cb ml n0 p e R s m args below meth c T h locs cells slots) {x y z : Int64} (hd : decode cb pc = .ok (.lsub, 1)) (hp : pc + 1 = pc') (hz : x - y = z) (k : own_E p e below G (T.setTop (mkF m pc' Ls (.long z :: S)))) : own_E p e below G (T.setTop (mkF m pc Ls (.long y :: .long x :: S))) := by
  subst hp; subst hz; exact own_go (fun _ => XS.lsub X.1.here X.2.1 rfl (hb X.2.2.2.1 hd) rfl) k
theorem own_lmul (X : own_A l Z own cb ml n0 p e R s m args below meth c T h locs cells slots) {x y z : Int64} (hd : decode cb pc = .ok (.lmul, 1)) (hp : pc + 1 = pc') (hz : x * y = z) (k : own_E p e below G (T.setTop (mkF m pc' Ls (.long z :: S)))) : own_E p e below G (T.setTop (mkF m pc Ls (.long y :: .long x :: S))) := by
  subst hp; subst hz; exact own_go (fun _ => XS.lmul X.1.here X.2.1 rfl (hb X.2.2.2.1 hd) rfl) k
theorem own_land (X : own_A l Z own cb ml n0 p e R s m args below meth c T h locs cells slots) {x y z : Int64} (hd : decode cb pc = .ok (.land, 1)) (hp : pc + 1 = pc') (hz : x &&& y = z) (k : own_E p e below G (T.setTop (mkF m pc' Ls (.long z :: S)))) : own_E p e below G (T.setTop (mkF m pc Ls (.long y :: .long x :: S))) := by
  subst hp; subst hz; exact own_go (fun _ => XS.land X.1.here X.2.1 rfl (hb X.2.2.2.1 hd) rfl) k
theorem own_lor (X : own_A l Z own cb ml n0 p e R s m args below meth c T h locs cells slots) {x y z : Int64} (hd : decode cb pc = .ok (.lor, 1)) (hp : pc + 1 = pc') (hz : x ||| y = z) (k : own_E p e below G (T.setTop (mkF m pc' Ls (.long z :: S)))) : own_E p e below G (T.setTop (mkF m pc Ls (.long y :: .long x :: S))) := by
  subst hp; subst hz; exact own_go (fun _ => XS.lor X.1.here X.2.1 rfl (hb X.2.2.2.1 hd) rfl) k
theorem own_lxor (X : own_A l Z own cb ml n0 p e R s m args below meth c T h locs cells slots) {x y z : Int64} (hd : decode cb pc = .ok (.lxor, 1)) (hp : pc + 1 = pc') (hz : x ^^^ y = z) (k : own_E p e below G (T.setTop (mkF m pc' Ls (.long z :: S)))) : own_E p e below G (T.setTop (mkF m pc Ls (.long y :: .long x :: S))) := by
  subst hp; subst hz; exact own_go (fun _ => XS.lxor X.1.here X.2.1 rfl (hb X.2.2.2.1 hd) rfl) k
theorem own_lshl (X : own_A l Z own cb ml n0 p e R s m args below meth c T h locs cells slots) {x z : Int64} {y : Int32} (hd : decode cb pc = .ok (.lshl, 1)) (hp : pc + 1 = pc') (hz : x <<< (y &&& 0x3f).toInt64 = z) (k : own_E p e below G (T.setTop (mkF m pc' Ls (.long z :: S)))) : own_E p e below G (T.setTop (mkF m pc Ls (.int y :: .long x :: S))) := by
  subst hp; subst hz; exact own_go (fun _ => XS.lshl X.1.here X.2.1 rfl (hb X.2.2.2.1 hd) rfl) k
theorem own_lshr (X : own_A l Z own cb ml n0 p e R s m args below meth c T h locs cells slots) {x z : Int64} {y : Int32} (hd : decode cb pc = .ok (.lshr, 1)) (hp : pc + 1 = pc') (hz : x >>> (y &&& 0x3f).toInt64 = z) (k : own_E p e below G (T.setTop (mkF m pc' Ls (.long z :: S)))) : own_E p e below G (T.setTop (mkF m pc Ls (.int y :: .long x :: S))) := by
  subst hp; subst hz; exact own_go (fun _ => XS.lshr X.1.here X.2.1 rfl (hb X.2.2.2.1 hd) rfl) k
theorem own_lushr (X : own_A l Z own cb ml n0 p e R s m args below meth c T h locs cells slots) {x z : Int64} {y : Int32} (hd : decode cb pc = .ok (.lushr, 1)) (hp : pc + 1 = pc') (hz : (x.toUInt64 >>> (y &&& 0x3f).toInt64.toUInt64).toInt64 = z) (k : own_E p e below G (T.setTop (mkF m pc' Ls (.long z :: S)))) : own_E p e below G (T.setTop (mkF m pc Ls (.int y :: .long x :: S))) := by
  subst hp; subst hz; exact own_go (fun _ => XS.lushr X.1.here X.2.1 rfl (hb X.2.2.2.1 hd) rfl) k
theorem own_idiv (X : own_A l Z own cb ml n0 p e R s m args below meth c T h locs cells slots) {x y z : Int32} (hd : decode cb pc = .ok (.idiv, 1)) (hp : pc + 1 = pc') (hy : y ≠ 0) (hz : x / y = z) (k : own_E p e below G (T.setTop (mkF m pc' Ls (.int z :: S)))) : own_E p e below G (T.setTop (mkF m pc Ls (.int y :: .int x :: S))) := by
  subst hp; subst hz; exact own_go (fun _ => XS.idiv X.1.here X.2.1 rfl (hb X.2.2.2.1 hd) rfl hy) k
theorem own_irem (X : own_A l Z own cb ml n0 p e R s m args below meth c T h locs cells slots) {x y z : Int32} (hd : decode cb pc = .ok (.irem, 1)) (hp : pc + 1 = pc') (hy : y ≠ 0) (hz : x % y = z) (k : own_E p e below G (T.setTop (mkF m pc' Ls (.int z :: S)))) : own_E p e below G (T.setTop (mkF m pc Ls (.int y :: .int x :: S))) := by
  subst hp; subst hz; exact own_go (fun _ => iremM X.1 X.2.1 rfl (hb X.2.2.2.1 hd) rfl hy) k
theorem own_ldiv (X : own_A l Z own cb ml n0 p e R s m args below meth c T h locs cells slots) {x y z : Int64} (hd : decode cb pc = .ok (.ldiv, 1)) (hp : pc + 1 = pc') (hy : y ≠ 0) (hz : x / y = z) (k : own_E p e below G (T.setTop (mkF m pc' Ls (.long z :: S)))) : own_E p e below G (T.setTop (mkF m pc Ls (.long y :: .long x :: S))) := by
  subst hp; subst hz; exact own_go (fun _ => XS.ldiv X.1.here X.2.1 rfl (hb X.2.2.2.1 hd) rfl hy) k
theorem own_lrem (X : own_A l Z own cb ml n0 p e R s m args below meth c T h locs cells slots) {x y z : Int64} (hd : decode cb pc = .ok (.lrem, 1)) (hp : pc + 1 = pc') (hy : y ≠ 0) (hz : x - (x / y) * y = z) (k : own_E p e below G (T.setTop (mkF m pc' Ls (.long z :: S)))) : own_E p e below G (T.setTop (mkF m pc Ls (.long y :: .long x :: S))) := by
  subst hp; subst hz; exact own_go (fun _ => XS.lrem X.1.here X.2.1 rfl (hb X.2.2.2.1 hd) rfl hy) k
theorem own_ineg (X : own_A l Z own cb ml n0 p e R s m args below meth c T h locs cells slots) {x : Int32} {z : Int32} (hd : decode cb pc = .ok (.ineg, 1)) (hp : pc + 1 = pc') (hz : -x = z) (k : own_E p e below G (T.setTop (mkF m pc' Ls (.int z :: S)))) : own_E p e below G (T.setTop (mkF m pc Ls (.int x :: S))) := by
  subst hp; subst hz; exact own_go (fun _ => XS.ineg X.1.here X.2.1 rfl (hb X.2.2.2.1 hd) rfl) k
theorem own_lneg (X : own_A l Z own cb ml n0 p e R s m args below meth c T h locs cells slots) {x : Int64} {z : Int64} (hd : decode cb pc = .ok (.lneg, 1)) (hp : pc + 1 = pc') (hz : -x = z) (k : own_E p e below G (T.setTop (mkF m pc' Ls (.long z :: S)))) : own_E p e below G (T.setTop (mkF m pc Ls (.long x :: S))) := by
  subst hp; subst hz; exact own_go (fun _ => XS.lneg X.1.here X.2.1 rfl (hb X.2.2.2.1 hd) rfl) k
theorem own_i2l (X : own_A l Z own cb ml n0 p e R s m args below meth c T h locs cells slots) {x : Int32} {z : Int64} (hd : decode cb pc = .ok (.i2l, 1)) (hp : pc + 1 = pc') (hz : x.toInt64 = z) (k : own_E p e below G (T.setTop (mkF m pc' Ls (.long z :: S)))) : own_E p e below G (T.setTop (mkF m pc Ls (.int x :: S))) := by
  subst hp; subst hz; exact own_go (fun _ => XS.i2l X.1.here X.2.1 rfl (hb X.2.2.2.1 hd) rfl) k
theorem own_l2i (X : own_A l Z own cb ml n0 p e R s m args below meth c T h locs cells slots) {x : Int64} {z : Int32} (hd : decode cb pc = .ok (.l2i, 1)) (hp : pc + 1 = pc') (hz : x.toInt32 = z) (k : own_E p e below G (T.setTop (mkF m pc' Ls (.int z :: S)))) : own_E p e below G (T.setTop (mkF m pc Ls (.long x :: S))) := by
  subst hp; subst hz; exact own_go (fun _ => XS.l2i X.1.here X.2.1 rfl (hb X.2.2.2.1 hd) rfl) k
theorem own_i2b (X : own_A l Z own cb ml n0 p e R s m args below meth c T h locs cells slots) {x : Int32} {z : Int32} (hd : decode cb pc = .ok (.i2b, 1)) (hp : pc + 1 = pc') (hz : x.toInt8.toInt32 = z) (k : own_E p e below G (T.setTop (mkF m pc' Ls (.int z :: S)))) : own_E p e below G (T.setTop (mkF m pc Ls (.int x :: S))) := by
  subst hp; subst hz; exact own_go (fun _ => XS.i2b X.1.here X.2.1 rfl (hb X.2.2.2.1 hd) rfl) k
theorem own_i2s (X : own_A l Z own cb ml n0 p e R s m args below meth c T h locs cells slots) {x : Int32} {z : Int32} (hd : decode cb pc = .ok (.i2s, 1)) (hp : pc + 1 = pc') (hz : x.toInt16.toInt32 = z) (k : own_E p e below G (T.setTop (mkF m pc' Ls (.int z :: S)))) : own_E p e below G (T.setTop (mkF m pc Ls (.int x :: S))) := by
  subst hp; subst hz; exact own_go (fun _ => XS.i2s X.1.here X.2.1 rfl (hb X.2.2.2.1 hd) rfl) k
theorem own_i2c (X : own_A l Z own cb ml n0 p e R s m args below meth c T h locs cells slots) {x : Int32} {z : Int32} (hd : decode cb pc = .ok (.i2c, 1)) (hp : pc + 1 = pc') (hz : x.toUInt32.toUInt16.toUInt32.toInt32 = z) (k : own_E p e below G (T.setTop (mkF m pc' Ls (.int z :: S)))) : own_E p e below G (T.setTop (mkF m pc Ls (.int x :: S))) := by
  subst hp; subst hz; exact own_go (fun _ => XS.i2c X.1.here X.2.1 rfl (hb X.2.2.2.1 hd) rfl) k
theorem own_iinc (X : own_A l Z own cb ml n0 p e R s m args below meth c T h locs cells slots) {i : Nat} {cst : Int} {x z : Int32} (hd : decode cb pc = .ok (.iinc i cst, 3)) (hp : pc + 3 = pc') (hl : Ls[i]? = some (.val (.int x))) (hz : x + Int32.ofInt cst = z) (hl' : storeLocals Ls i (.int z) = some Ls') (k : own_E p e below G (T.setTop (mkF m pc' Ls' S))) : own_E p e below G (T.setTop (mkF m pc Ls S)) := by
  subst hp; subst hz; exact own_go (fun _ => XS.iinc X.1.here X.2.1 rfl (hb X.2.2.2.1 hd) hl hl') k
theorem own_dup (X : own_A l Z own cb ml n0 p e R s m args below meth c T h locs cells slots) {v : Value} (hd : decode cb pc = .ok (.dup, 1)) (hp : pc + 1 = pc') (hc : v.category = 1) (k : own_E p e below G (T.setTop (mkF m pc' Ls (v :: v :: S)))) : own_E p e below G (T.setTop (mkF m pc Ls (v :: S))) := by
  subst hp; exact own_go (fun _ => XS.dup X.1.here X.2.1 rfl (hb X.2.2.2.1 hd) rfl hc) k
theorem own_pop (X : own_A l Z own cb ml n0 p e R s m args below meth c T h locs cells slots) {v : Value} (hd : decode cb pc = .ok (.pop, 1)) (hp : pc + 1 = pc') (hc : v.category = 1) (k : own_E p e below G (T.setTop (mkF m pc' Ls S))) : own_E p e below G (T.setTop (mkF m pc Ls (v :: S))) := by
  subst hp; exact own_go (fun _ => XS.pop X.1.here X.2.1 rfl (hb X.2.2.2.1 hd) rfl hc) k
theorem own_goto (X : own_A l Z own cb ml n0 p e R s m args below meth c T h locs cells slots) {o : Int} (hd : decode cb pc = .ok (.goto o, 3)) (ho : 0 ≤ (pc : Int) + o) (hp : ((pc : Int) + o).toNat = pc') (k : own_E p e below G (T.setTop (mkF m pc' Ls S))) : own_E p e below G (T.setTop (mkF m pc Ls S)) :=
  own_go (fun _ => XS.goto X.1.here X.2.1 rfl rfl (hb X.2.2.2.1 hd) ho hp) k
theorem own_icmpY (X : own_A l Z own cb ml n0 p e R s m args below meth c T h locs cells slots) {cd : ClassFile.Cond} {o : Int} {x y : Int32} (hd : decode cb pc = .ok (.if_icmp cd o, 3)) (hc : if_icmp.holds cd x y = true) (ho : 0 ≤ (pc : Int) + o) (hp : ((pc : Int) + o).toNat = pc') (k : own_E p e below G (T.setTop (mkF m pc' Ls S))) : own_E p e below G (T.setTop (mkF m pc Ls (.int y :: .int x :: S))) :=
  own_go (fun _ => XS.icmpYes X.1.here X.2.1 rfl rfl (hb X.2.2.2.1 hd) rfl hc ho hp) k
theorem own_icmpN (X : own_A l Z own cb ml n0 p e R s m args below meth c T h locs cells slots) {cd : ClassFile.Cond} {o : Int} {x y : Int32} (hd : decode cb pc = .ok (.if_icmp cd o, 3)) (hc : if_icmp.holds cd x y = false) (hp : pc + 3 = pc') (k : own_E p e below G (T.setTop (mkF m pc' Ls S))) : own_E p e below G (T.setTop (mkF m pc Ls (.int y :: .int x :: S))) := by
  subst hp; exact own_go (fun _ => XS.icmpNo X.1.here X.2.1 rfl (hb X.2.2.2.1 hd) rfl hc) k
theorem own_ifY (X : own_A l Z own cb ml n0 p e R s m args below meth c T h locs cells slots) {cd : ClassFile.Cond} {o : Int} {x : Int32} (hd : decode cb pc = .ok (.ifCond cd o, 3)) (hc : if_icmp.holds cd x 0 = true) (ho : 0 ≤ (pc : Int) + o) (hp : ((pc : Int) + o).toNat = pc') (k : own_E p e below G (T.setTop (mkF m pc' Ls S))) : own_E p e below G (T.setTop (mkF m pc Ls (.int x :: S))) :=
  own_go (fun _ => XS.ifYes X.1.here X.2.1 rfl rfl (hb X.2.2.2.1 hd) rfl ((if0 _ _).trans hc) ho hp) k
theorem own_ifN (X : own_A l Z own cb ml n0 p e R s m args below meth c T h locs cells slots) {cd : ClassFile.Cond} {o : Int} {x : Int32} (hd : decode cb pc = .ok (.ifCond cd o, 3)) (hc : if_icmp.holds cd x 0 = false) (hp : pc + 3 = pc') (k : own_E p e below G (T.setTop (mkF m pc' Ls S))) : own_E p e below G (T.setTop (mkF m pc Ls (.int x :: S))) := by
  subst hp; exact own_go (fun _ => XS.ifNo X.1.here X.2.1 rfl (hb X.2.2.2.1 hd) rfl ((if0 _ _).trans hc)) k
theorem own_ljY (X : own_A l Z own cb ml n0 p e R s m args below meth c T h locs cells slots) {cd : ClassFile.Cond} {o : Int} {x y : Int64} {pc1 : Nat} (hd1 : decode cb pc = .ok (.lcmp, 1)) (h1 : pc + 1 = pc1) (hd : decode cb pc1 = .ok (.ifCond cd o, 3)) (hc : if_icmp.holds cd (lcmpW x y) 0 = true) (ho : 0 ≤ (pc1 : Int) + o) (hp : ((pc1 : Int) + o).toNat = pc') (k : own_E p e below G (T.setTop (mkF m pc' Ls S))) : own_E p e below G (T.setTop (mkF m pc Ls (.long y :: .long x :: S))) := by
  subst h1
  exact own_go (fun _ k => XS.lcmp X.1.here X.2.1 rfl (hb X.2.2.2.1 hd1) rfl (XS.ifYes X.1.here X.2.1 rfl rfl (hb X.2.2.2.1 hd) rfl ((if0 _ _).trans hc) ho hp k)) k
theorem own_ljN (X : own_A l Z own cb ml n0 p e R s m args below meth c T h locs cells slots) {cd : ClassFile.Cond} {o : Int} {x y : Int64} {pc1 : Nat} (hd1 : decode cb pc = .ok (.lcmp, 1)) (h1 : pc + 1 = pc1) (hd : decode cb pc1 = .ok (.ifCond cd o, 3)) (hc : if_icmp.holds cd (lcmpW x y) 0 = false) (hp : pc1 + 3 = pc') (k : own_E p e below G (T.setTop (mkF m pc' Ls S))) : own_E p e below G (T.setTop (mkF m pc Ls (.long y :: .long x :: S))) := by
  subst h1; subst hp
  exact own_go (fun _ k => XS.lcmp X.1.here X.2.1 rfl (hb X.2.2.2.1 hd1) rfl (XS.ifNo X.1.here X.2.1 rfl (hb X.2.2.2.1 hd) rfl ((if0 _ _).trans hc) k)) k
theorem own_tltL {x y : Int64} (q : x < y) : if_icmp.holds .lt (lcmpW x y) 0 = true ∧ if_icmp.holds .ge (lcmpW x y) 0 = false ∧ if_icmp.holds .gt (lcmpW y x) 0 = true ∧ if_icmp.holds .le (lcmpW y x) 0 = false :=
  ⟨(tlt ((lw_lt x y).mpr q)).1, (tlt ((lw_lt x y).mpr q)).2.1, (tlt ((lw_gt y x).mpr q)).2.2.1, (tlt ((lw_gt y x).mpr q)).2.2.2⟩
theorem own_fltL {x y : Int64} (q : ¬ x < y) : if_icmp.holds .lt (lcmpW x y) 0 = false ∧ if_icmp.holds .ge (lcmpW x y) 0 = true ∧ if_icmp.holds .gt (lcmpW y x) 0 = false ∧ if_icmp.holds .le (lcmpW y x) 0 = true :=
  ⟨(flt (fun z => q ((lw_lt x y).mp z))).1, (flt (fun z => q ((lw_lt x y).mp z))).2.1, (flt (fun z => q ((lw_gt y x).mp z))).2.2.1, (flt (fun z => q ((lw_gt y x).mp z))).2.2.2⟩
theorem own_teqL {x y : Int64} (q : x = y) : if_icmp.holds .eq (lcmpW x y) 0 = true ∧ if_icmp.holds .ne (lcmpW x y) 0 = false := teq ((lw_eq x y).mpr q)
theorem own_feqL {x y : Int64} (q : ¬ x = y) : if_icmp.holds .eq (lcmpW x y) 0 = false ∧ if_icmp.holds .ne (lcmpW x y) 0 = true := feq (fun z => q ((lw_eq x y).mp z))
theorem own_ifnullY (X : own_A l Z own cb ml n0 p e R s m args below meth c T h locs cells slots) {o : Int} (hd : decode cb pc = .ok (.ifnull o, 3)) (ho : 0 ≤ (pc : Int) + o) (hp : ((pc : Int) + o).toNat = pc') (k : own_E p e below G (T.setTop (mkF m pc' Ls S))) : own_E p e below G (T.setTop (mkF m pc Ls (.null :: S))) :=
  own_go (fun _ => XS.ifnullYes X.1.here X.2.1 rfl rfl (hb X.2.2.2.1 hd) rfl ho hp) k
theorem own_ifnullN (X : own_A l Z own cb ml n0 p e R s m args below meth c T h locs cells slots) {o : Int} {b : Addr} (hd : decode cb pc = .ok (.ifnull o, 3)) (hp : pc + 3 = pc') (k : own_E p e below G (T.setTop (mkF m pc' Ls S))) : own_E p e below G (T.setTop (mkF m pc Ls (.ref b :: S))) := by
  subst hp; exact own_go (fun _ => XS.ifnullNo X.1.here X.2.1 rfl (hb X.2.2.2.1 hd) rfl) k
theorem own_ldc (X : own_A l Z own cb ml n0 p e R s m args below meth c T h locs cells slots) {i : Nat} {v : Int32} (w : (Jvm.Cond.constant own i v).before a0 Z = true) (hd : decode cb pc = .ok (.ldc i, 2)) (hp : pc + 2 = pc') (k : own_E p e below G (T.setTop (mkF m pc' Ls (.int v :: S)))) : own_E p e below G (T.setTop (mkF m pc Ls S)) := by
  subst hp; exact own_go (X.1.ldcInt X.2.1 X.2.2.2.2.2.1 (mvT X.2.2.1 w) rfl (hb X.2.2.2.1 hd)) k
theorem own_ldc2 (X : own_A l Z own cb ml n0 p e R s m args below meth c T h locs cells slots) {i : Nat} {v : Int64} (w : (Jvm.Cond.constantLong own i v).before a0 Z = true) (hd : decode cb pc = .ok (.ldc2_w i, 3)) (hp : pc + 3 = pc') (k : own_E p e below G (T.setTop (mkF m pc' Ls (.long v :: S)))) : own_E p e below G (T.setTop (mkF m pc Ls S)) := by
  subst hp; exact own_go (X.1.ldc2Long X.2.1 X.2.2.2.2.2.1 (mvT X.2.2.1 w) rfl (hb X.2.2.2.1 hd)) k
theorem own_callS (X : own_A l Z own cb ml n0 p e R s m args below meth c T h locs cells slots) {y : MethodName} {cb' : ByteArray} {ml' : Nat} {ret' : Option FieldType} {rm : Room} {argsL st : List Value} {Q : Option Value → Heap → Prop} {i : Nat} (hC : own_Con l Z y cb' ml' ret' rm argsL.toArray h n0 Q)
    (w1 : (Jvm.Cond.methodLink own i y).before a0 Z = true) (w2 : (Jvm.Cond.static y).before a0 Z = true) (w3 : (Jvm.Cond.initialized y.cls).before a0 Z = true) (w4 : (Jvm.Cond.code y cb' ml' ret').before a0 Z = true) (hy : y.cls ≠ "java/lang/invoke/MethodHandle" ∧ y.cls ≠ "java/lang/invoke/VarHandle")
    (hf : rm.frames + 1 ≤ R.frames) (W : Nat) (hl : W + (ml' + 11) + rm.locals ≤ R.locals) (hls : Ls.size = ml) {ps : List FieldType} {r : Option FieldType} (hpd : parseMethodDescriptor y.desc = some ⟨ps, r⟩) (hlen : argsL.length = ps.length) (hst : st = argsL.reverse ++ S) (hW : (S.map fun v => v.category).sum ≤ W) (hcl : cells + rm.cells ≤ R.cells) (hsl : slots + rm.slots ≤ R.slots)
    (hd : decode cb pc = .ok (.invokestatic i, 3)) (hp : pc + 3 = pc') (k : ∀ T' h' locs' v, own_A l Z own cb ml n0 p e R s m args below meth c T' h' locs' (cells + rm.cells) (slots + rm.slots) → Q v h' → own_E p e below G (T'.setTop (mkF m pc' Ls (v.toList ++ S)))) : own_E p e below G (T.setTop (mkF m pc Ls st)) := by
  obtain ⟨X, hx, hZ, hby, hml, hown, eT, N, hsz, hlk⟩ := X
  subst hp
  obtain ⟨v, _, ⟨T', L', k', n'⟩, -, X', ⟨Lc, hQ, q1, q2, q3⟩, stp⟩ := Jvm.LawKit.callS X hx (y := y) hown (mvT hZ w1) (mvT hZ w2) (mvT hZ w3) (mvT hZ w4) hy (backOf (Q := fun v h L => Q v h ∧ Fr n0 L ∧ n0 ≤ h.size) (W := W) (hC []) hZ w4 w3 hf hl) (g := mkF m pc Ls st) rfl (by rw [hml]; exact hls) (argsL := argsL) (rest := S) (lenOf hpd hlen) hst (by show 2 * 0 + _ ≤ _; omega) (hb hby hd) (fun _ _ => ⟨rfl, eT, hcl, hsl⟩)
  dsimp only [Pt.U, Pt.locs, Pt.cells, Pt.slots] at X' q1 q2 q3 stp hQ
  subst q1 q2 q3
  exact own_go stp (k _ _ _ _ ⟨X', hx, hZ, hby, hml, hown, rfl, N.app hQ.2.1, hQ.2.2, hlk⟩ hQ.1)
theorem own_callI (X : own_A l Z own cb ml n0 p e R s m args below meth c T h locs cells slots) {y : MethodName} {cb' : ByteArray} {ml' : Nat} {rm : Room} {a : Addr} {argsL st : List Value} {Q : Option Value → Heap → Prop} {i : Nat} (hC : own_Con l Z y cb' ml' none rm (.ref a :: argsL).toArray h n0 Q) (hy1 : y.name = "<init>")
    (w1 : (Jvm.Cond.methodLink own i y).before a0 Z = true) (w2 : (Jvm.Cond.instanceMethod y).before a0 Z = true) (w3 : (Jvm.Cond.initialized y.cls).before a0 Z = true) (w4 : (Jvm.Cond.code y cb' ml' none).before a0 Z = true) (hy : y.cls ≠ "java/lang/invoke/MethodHandle" ∧ y.cls ≠ "java/lang/invoke/VarHandle")
    (hf : rm.frames + 1 ≤ R.frames) (W : Nat) (hl : W + (ml' + 11) + rm.locals ≤ R.locals) (hls : Ls.size = ml) {ps : List FieldType} {r : Option FieldType} (hpd : parseMethodDescriptor y.desc = some ⟨ps, r⟩) (hlen : argsL.length = ps.length) (hst : st = argsL.reverse ++ .ref a :: S) (hW : (S.map fun v => v.category).sum ≤ W) (hcl : cells + rm.cells ≤ R.cells) (hsl : slots + rm.slots ≤ R.slots)
    (hd : decode cb pc = .ok (.invokespecial i, 3)) (hp : pc + 3 = pc') (k : ∀ T' h' locs' v, own_A l Z own cb ml n0 p e R s m args below meth c T' h' locs' (cells + rm.cells) (slots + rm.slots) → Q v h' → own_E p e below G (T'.setTop (mkF m pc' Ls (v.toList ++ S)))) : own_E p e below G (T.setTop (mkF m pc Ls st)) := by
  obtain ⟨X, hx, hZ, hby, hml, hown, eT, N, hsz, hlk⟩ := X
  subst hp
  obtain ⟨v, _, ⟨T', L', k', n'⟩, -, X', ⟨Lc, hQ, q1, q2, q3⟩, stp⟩ := X.specialBack hx (y := y) hy1 hown (mvT hZ w1) (mvT hZ w2) (mvT hZ w4) hy (backOf (Q := fun v h L => Q v h ∧ Fr n0 L ∧ n0 ≤ h.size) (W := W) (hC []) hZ w4 w3 hf hl) (g := mkF m pc Ls st) rfl (by rw [hml]; exact hls) (Steps.refl _) (a := a) (argsL := argsL) (rest := S) (lenOf hpd hlen) hst (by show 2 * 0 + _ ≤ _; omega) (hb hby hd) (fun _ _ => ⟨rfl, eT, hcl, hsl⟩)
  dsimp only [Pt.U, Pt.locs, Pt.cells, Pt.slots] at X' q1 q2 q3 stp hQ
  subst q1 q2 q3
  exact own_go (fun _ z => stp.trans z) (k _ _ _ _ ⟨X', hx, hZ, hby, hml, hown, rfl, N.app hQ.2.1, hQ.2.2, hlk⟩ hQ.1)
theorem own_callV (X : own_A l Z own cb ml n0 p e R s m args below meth c T h locs cells slots) {y : MethodName} {C : String} {cb' : ByteArray} {ml' : Nat} {ret' : Option FieldType} {rm : Room} {a : Addr} {argsL st : List Value} {Q : Option Value → Heap → Prop} {i : Nat} (hC : own_Con l Z y cb' ml' ret' rm (.ref a :: argsL).toArray h n0 Q) (E : Exa Z h a C)
    (w1 : (Jvm.Cond.methodLink own i y).before a0 Z = true) (w2 : (Jvm.Cond.declares y).before a0 Z = true) (w5 : (Jvm.Cond.selects C y y).before a0 Z = true) (w6 : (Jvm.Cond.instanceMethod y).before a0 Z = true) (w3 : (Jvm.Cond.initialized y.cls).before a0 Z = true) (w4 : (Jvm.Cond.code y cb' ml' ret').before a0 Z = true) (hy : y.cls ≠ "java/lang/invoke/MethodHandle" ∧ y.cls ≠ "java/lang/invoke/VarHandle")
    (hf : rm.frames + 1 ≤ R.frames) (W : Nat) (hl : W + (ml' + 11) + rm.locals ≤ R.locals) (hls : Ls.size = ml) {ps : List FieldType} {r : Option FieldType} (hpd : parseMethodDescriptor y.desc = some ⟨ps, r⟩) (hlen : argsL.length = ps.length) (hst : st = argsL.reverse ++ .ref a :: S) (hW : (S.map fun v => v.category).sum ≤ W) (hcl : cells + rm.cells ≤ R.cells) (hsl : slots + rm.slots ≤ R.slots)
    (hd : decode cb pc = .ok (.invokevirtual i, 3)) (hp : pc + 3 = pc') (hC0 : y.cls = C) (k : ∀ T' h' locs' v, own_A l Z own cb ml n0 p e R s m args below meth c T' h' locs' (cells + rm.cells) (slots + rm.slots) → Q v h' → own_E p e below G (T'.setTop (mkF m pc' Ls (v.toList ++ S)))) : own_E p e below G (T.setTop (mkF m pc Ls st)) := by
  obtain ⟨X, hx, hZ, hby, hml, hown, eT, N, hsz, hlk⟩ := X
  subst hp; subst hC0
  obtain ⟨cq, kq, qa, qb, qc⟩ := isOf hZ eT E
  obtain ⟨v, _, ⟨T', L', k', n'⟩, -, X', ⟨Lc, hQ, q1, q2, q3⟩, stp⟩ := X.virtualBack hx (y := y) (z := y) hown (mvT hZ w1) (mvT hZ w2) (notFace_of_selects (args := #[]) (mvT hZ w5)) (mvT hZ w5) (mvT hZ w6) hy (backOf (Q := fun v h L => Q v h ∧ Fr n0 L ∧ n0 ≤ h.size) (W := W) (hC []) hZ w4 w3 hf hl) qa qc (g := mkF m pc Ls st) rfl (by rw [hml]; exact hls) (Steps.refl _) (argsL := argsL) (rest := S) (lenOf hpd hlen) hst (by show 2 * 0 + _ ≤ _; omega) (hb hby hd) (fun _ _ => ⟨rfl, eT, hcl, hsl⟩)
  dsimp only [Pt.U, Pt.locs, Pt.cells, Pt.slots] at X' q1 q2 q3 stp hQ
  subst q1 q2 q3
  exact own_go (fun _ z => stp.trans z) (k _ _ _ _ ⟨X', hx, hZ, hby, hml, hown, rfl, N.app hQ.2.1, hQ.2.2, hlk⟩ hQ.1)
theorem own_initO (X : own_A l Z own cb ml n0 p e R s m args below meth c T h locs cells slots) {i : Nat} {a : Addr} (w1 : (Jvm.Cond.methodLink own i Lib.objectInit).before a0 Z = true) (w2 : (Jvm.Cond.instanceMethod Lib.objectInit).before a0 Z = true) (w3 : (Jvm.Cond.code Lib.objectInit ⟨#[0xb1]⟩ 1 none).before a0 Z = true) (hls : Ls.size = ml) (hf : 1 ≤ R.frames) (W : Nat) (hW : (S.map fun v => v.category).sum ≤ W) (hl : W + 12 ≤ R.locals)
    (hd : decode cb pc = .ok (.invokespecial i, 3)) (hp : pc + 3 = pc') (k : ∀ T', own_A l Z own cb ml n0 p e R s m args below meth c T' h locs cells slots → own_E p e below G (T'.setTop (mkF m pc' Ls S))) : own_E p e below G (T.setTop (mkF m pc Ls (.ref a :: S))) := by
  obtain ⟨X, hx, hZ, hby, hml, hown, eT, N, hsz, hlk⟩ := X
  subst hp
  obtain ⟨T', X', eT', stp⟩ := initO X hx hZ hown w1 w2 w3 eT (g := mkF m pc Ls (.ref a :: S)) rfl (by rw [hml]; exact hls) rfl (hb hby hd) hf (W := W) (by show 2 * 0 + _ ≤ _; omega) hl
  exact own_go stp (k _ ⟨X', hx, hZ, hby, hml, hown, eT', N, hsz, hlk⟩)
theorem own_getF (X : own_A l Z own cb ml n0 p e R s m args below meth c T h locs cells slots) {i : Nat} {a : Addr} {C f d : String} {v : Value} (w1 : (Jvm.Cond.fieldLink own i C f d).before a0 Z = true) (F : Fld Z h a C f d v)
    (hd : decode cb pc = .ok (.getfield i, 3)) (hp : pc + 3 = pc') (k : ∀ T', own_A l Z own cb ml n0 p e R s m args below meth c T' h locs cells slots → own_E p e below G (T'.setTop (mkF m pc' Ls (v :: S)))) : own_E p e below G (T.setTop (mkF m pc Ls (.ref a :: S))) := by
  obtain ⟨X, hx, hZ, hby, hml, hown, eT, N, hsz, hlk⟩ := X
  subst hp
  obtain ⟨T', X', eT', stp⟩ := getF X hx hZ hown (host := "") (Or.inl w1) Via.refl eT F (g := mkF m pc Ls (.ref a :: S)) rfl rfl (hb hby hd)
  exact own_go stp (k _ ⟨X', hx, hZ, hby, hml, hown, eT', N, hsz, hlk⟩)
theorem own_getS (X : own_A l Z own cb ml n0 p e R s m args below meth c T h locs cells slots) {i : Nat} {C f d : String} {v : Value} (w1 : (Jvm.Cond.fieldLink own i C f d).before a0 Z = true) (F : Sta Z h C f d v)
    (hd : decode cb pc = .ok (.getstatic i, 3)) (hp : pc + 3 = pc') (k : ∀ T', own_A l Z own cb ml n0 p e R s m args below meth c T' h locs cells slots → own_E p e below G (T'.setTop (mkF m pc' Ls (v :: S)))) : own_E p e below G (T.setTop (mkF m pc Ls S)) := by
  obtain ⟨X, hx, hZ, hby, hml, hown, eT, N, hsz, hlk⟩ := X
  subst hp
  obtain ⟨T', X', eT', stp⟩ := getS2 X hx hZ hown (host := "") (Or.inl w1) Via.refl eT F (g := mkF m pc Ls S) rfl (hb hby hd)
  exact own_go stp (k _ ⟨X', hx, hZ, hby, hml, hown, eT', N, hsz, hlk⟩)
theorem own_staK {C f d : String} {v : Value} (F : Sta Z h C f d v) (K : Keep h h' []) : Sta Z h' C f d v := by
  obtain ⟨cf, i, k, f', st, cell, h1, h2, h3, h4, h5, r⟩ := F
  exact ⟨cf, i, k, f', st, cell, h1, h2, h3, h4, K.2.1 _ _ h5 (fun q => nomatch q), r⟩
theorem own_putF (X : own_A l Z own cb ml n0 p e R s m args below meth c T h locs cells slots) {i kk : Nat} {a : Addr} {C f d : String} {v old : Value} {ty : FieldType} (w1 : (Jvm.Cond.fieldLink own i C f d).before a0 Z = true) (F : Fld Z h a C f d old) (E : Exa Z h a C) (L : (Jvm.Cond.lays C C f d).before a0 Z = true ∨ ((Jvm.Cond.laysFinal C C f d).before a0 Z = true ∧ own = C ∧ meth.name = "<init>")) (wi : (Jvm.Cond.instantiable C kk).before a0 Z = true)
    (hty : parseFieldDescriptor d = some ty) (hn : narrow ty v = v) (hft : fits ty v = true) (hg : n0 ≤ a) (hd : decode cb pc = .ok (.putfield i, 3)) (hp : pc + 3 = pc')
    (k : ∀ T' h' locs', own_A l Z own cb ml n0 p e R s m args below meth c T' h' locs' cells slots → Wr h h' a (Jvm.RoadKit.slotOf Z C f d) v → Fld Z h' a C f d v → own_E p e below G (T'.setTop (mkF m pc' Ls S))) : own_E p e below G (T.setTop (mkF m pc Ls (v :: .ref a :: S))) := by
  obtain ⟨X, hx, hZ, hby, hml, hown, eT, N, hsz, hlk⟩ := X
  subst hp
  obtain ⟨T', h', X', eT', W, stp⟩ := putF X hx hZ hown (host := "") (Or.inl w1) Via.refl eT F E L wi hty hn hft (g := mkF m pc Ls (v :: .ref a :: S)) rfl rfl (hb hby hd)
  exact own_go stp (k _ _ _ ⟨X', hx, hZ, hby, hml, hown, eT', Fr.snoc X' N hg, by rw [W.size]; exact hsz, hlk⟩ W (F.same W))
theorem own_putFN (X : own_A l Z own cb ml n0 p e R s m args below meth c T h locs cells slots) {i kk : Nat} {a : Addr} {C f d : String} {v v' old : Value} {ty : FieldType} (w1 : (Jvm.Cond.fieldLink own i C f d).before a0 Z = true) (F : Fld Z h a C f d old) (E : Exa Z h a C) (L : (Jvm.Cond.lays C C f d).before a0 Z = true ∨ ((Jvm.Cond.laysFinal C C f d).before a0 Z = true ∧ own = C ∧ meth.name = "<init>")) (wi : (Jvm.Cond.instantiable C kk).before a0 Z = true)
    (hty : parseFieldDescriptor d = some ty) (hn : narrow ty v = v') (hft : fits ty v' = true) (hg : n0 ≤ a) (hd : decode cb pc = .ok (.putfield i, 3)) (hp : pc + 3 = pc')
    (k : ∀ T' h' locs', own_A l Z own cb ml n0 p e R s m args below meth c T' h' locs' cells slots → Wr h h' a (Jvm.RoadKit.slotOf Z C f d) v' → Fld Z h' a C f d v' → own_E p e below G (T'.setTop (mkF m pc' Ls S))) : own_E p e below G (T.setTop (mkF m pc Ls (v :: .ref a :: S))) := by
  obtain ⟨X, hx, hZ, hby, hml, hown, eT, N, hsz, hlk⟩ := X
  subst hp
  obtain ⟨T', h', X', eT', W, stp⟩ := putFN X hx hZ hown w1 Via.refl eT F E L wi hty hn hft (g := mkF m pc Ls (v :: .ref a :: S)) rfl rfl (hb hby hd)
  exact own_go stp (k _ _ _ ⟨X', hx, hZ, hby, hml, hown, eT', Fr.snoc X' N hg, by rw [W.size]; exact hsz, hlk⟩ W (F.same W))
theorem own_new (X : own_A l Z own cb ml n0 p e R s m args below meth c T h locs cells slots) {i n : Nat} {C : String} (w1 : (Jvm.Cond.classLink own i C).before a0 Z = true) (w2 : (Jvm.Cond.instantiable C n).before a0 Z = true) (w3 : (Jvm.Cond.initialized C).before a0 Z = true) (hc : cells + 1 ≤ R.cells) (hs : slots + n ≤ R.slots)
    (hd : decode cb pc = .ok (.new i, 3)) (hp : pc + 3 = pc') (k : ∀ T' h' a, own_A l Z own cb ml n0 p e R s m args below meth c T' h' locs (cells + 1) (slots + n) → Ext h h' → h.size = a → n0 ≤ a → Exa Z h' a C → (∀ {O nm d : String} {ty : FieldType}, Laid Z a0 C O nm d → parseFieldDescriptor d = some ty → Fld Z h' a O nm d (defaultValue ty)) → own_E p e below G (T'.setTop (mkF m pc' Ls (.ref a :: S)))) : own_E p e below G (T.setTop (mkF m pc Ls S)) := by
  obtain ⟨X, hx, hZ, hby, hml, hown, eT, N, hsz, hlk⟩ := X
  subst hp
  obtain ⟨T', h', X', eT', E', A', D', -, stp⟩ := newO X hx hZ hown w1 w2 w3 eT (g := mkF m pc Ls S) rfl (hb hby hd) hc hs
  exact own_go stp (k _ _ _ ⟨X', hx, hZ, hby, hml, hown, eT', N, Nat.le_trans hsz E'.1, hlk⟩ E' rfl hsz A' D')
/-! arrays -/
def own_V (Z : State) (h : Heap) (a : Addr) (ty : FieldType) (z : Int32) (xs : List Int32) : Prop := ∃ k, Arv Z h a k ty z (xs.map Value.int) (.int 0) ∧ xs.length = z.toNatClampNeg
def own_W (Z : State) (h : Heap) (a : Addr) (z : Int32) (xs : List Int64) : Prop := ∃ k, Arv Z h a k .long z (xs.map Value.long) (.long 0) ∧ xs.length = z.toNatClampNeg
theorem own_V.ext {a : Addr} {ty : FieldType} {z : Int32} {xs : List Int32} (V : own_V Z h a ty z xs) (E : Ext h h') : own_V Z h' a ty z xs := by obtain ⟨k, A, q⟩ := V; exact ⟨k, A.ext E, q⟩
theorem own_W.ext {a : Addr} {z : Int32} {xs : List Int64} (V : own_W Z h a z xs) (E : Ext h h') : own_W Z h' a z xs := by obtain ⟨k, A, q⟩ := V; exact ⟨k, A.ext E, q⟩
theorem own_V.other {a b : Addr} {ty : FieldType} {z : Int32} {xs : List Int32} {sl : Nat} {v : Value} (V : own_V Z h a ty z xs) (W : Wr h h' b sl v) (q : a ≠ b) : own_V Z h' a ty z xs := by obtain ⟨k, A, r⟩ := V; exact ⟨k, A.other W q, r⟩
theorem own_W.other {a b : Addr} {z : Int32} {xs : List Int64} {sl : Nat} {v : Value} (V : own_W Z h a z xs) (W : Wr h h' b sl v) (q : a ≠ b) : own_W Z h' a z xs := by obtain ⟨k, A, r⟩ := V; exact ⟨k, A.other W q, r⟩
theorem own_V.keep {a : Addr} {ty : FieldType} {z : Int32} {xs : List Int32} {ws : List Addr} (V : own_V Z h a ty z xs) (K : Keep h h' ws) (q : a ∉ ws) : own_V Z h' a ty z xs := by obtain ⟨k, A, r⟩ := V; exact ⟨k, A.keep K q, r⟩
theorem own_W.keep {a : Addr} {z : Int32} {xs : List Int64} {ws : List Addr} (V : own_W Z h a z xs) (K : Keep h h' ws) (q : a ∉ ws) : own_W Z h' a z xs := by obtain ⟨k, A, r⟩ := V; exact ⟨k, A.keep K q, r⟩
theorem own_V.lt {a : Addr} {ty : FieldType} {z : Int32} {xs : List Int32} (V : own_V Z h a ty z xs) : a < h.size := by obtain ⟨k, A, r⟩ := V; exact A.lt
theorem own_W.lt {a : Addr} {z : Int32} {xs : List Int64} (V : own_W Z h a z xs) : a < h.size := by obtain ⟨k, A, r⟩ := V; exact A.lt
theorem own_V.len {a : Addr} {ty : FieldType} {z : Int32} {xs : List Int32} (V : own_V Z h a ty z xs) : xs.length = z.toNatClampNeg := by obtain ⟨k, A, r⟩ := V; exact r
theorem own_W.len {a : Addr} {z : Int32} {xs : List Int64} (V : own_W Z h a z xs) : xs.length = z.toNatClampNeg := by obtain ⟨k, A, r⟩ := V; exact r
theorem own_V.cast {a : Addr} {ty : FieldType} {z : Int32} {xs ys : List Int32} (V : own_V Z h a ty z xs) (q : xs = ys) : own_V Z h a ty z ys := q ▸ V
theorem own_W.cast {a : Addr} {z : Int32} {xs ys : List Int64} (V : own_W Z h a z xs) (q : xs = ys) : own_W Z h a z ys := q ▸ V
theorem own_cast (X : own_A l Z own cb ml n0 p e R s m args below meth c T h locs cells slots) {i : Nat} {a : Addr} {C : String} (w1 : (Jvm.Cond.classLink own i C).before a0 Z = true) (I : Ins Z h a C true)
    (hd : decode cb pc = .ok (.checkcast i, 3)) (hp : pc + 3 = pc') (k : ∀ T', own_A l Z own cb ml n0 p e R s m args below meth c T' h locs cells slots → own_E p e below G (T'.setTop (mkF m pc' Ls (.ref a :: S)))) : own_E p e below G (T.setTop (mkF m pc Ls (.ref a :: S))) := by
  obtain ⟨X, hx, hZ, hby, hml, hown, eT, N, hsz, hlk⟩ := X
  subst hp
  obtain ⟨T', X', eT', stp⟩ := castY X hx hZ hown w1 eT I (g := mkF m pc Ls (.ref a :: S)) rfl rfl (hb hby hd)
  exact own_go stp (k _ ⟨X', hx, hZ, hby, hml, hown, eT', N, hsz, hlk⟩)
theorem own_V.nn {a : Addr} {ty : FieldType} {z : Int32} {xs : List Int32} (V : own_V Z h a ty z xs) : ¬ z < 0 := by obtain ⟨k, ⟨cl, A, q1, q2, q3, r⟩, r'⟩ := V; exact q3
theorem own_idx {j z : Int32} {n : Nat} (q : n = z.toNatClampNeg) (h0 : ¬ j < 0) (h1 : j < z) : j.toNatClampNeg < n := by
  subst q
  rw [Int32.lt_iff_toInt_lt] at h0 h1
  have e0 : (0 : Int32).toInt = 0 := rfl
  simp only [Int32.toNatClampNeg]; omega
theorem own_mapI (xs : List Int32) (i : Nat) : (xs.map Value.int).getD i (.int 0) = .int (xs.getD i 0) := by
  simp only [List.getD_eq_getElem?_getD, List.getElem?_map]; cases xs[i]? <;> rfl
theorem own_mapL (xs : List Int64) (i : Nat) : (xs.map Value.long).getD i (.long 0) = .long (xs.getD i 0) := by
  simp only [List.getD_eq_getElem?_getD, List.getElem?_map]; cases xs[i]? <;> rfl
theorem own_newV (X : own_A l Z own cb ml n0 p e R s m args below meth c T h locs cells slots) {aty : ArrayType} {ty : FieldType} {n : Int32} (hty : newarray.typeOf aty = ty) (hdv : defaultValue ty = .int 0) (w : (Jvm.Cond.arrayClass ty).before a0 Z = true) (hn : ¬ n < 0) (cap : Nat) (hcap : n.toNatClampNeg ≤ cap) (hb8 : cap * 8 ≤ 536870912) (hc : cells + 1 ≤ R.cells) (hs : slots + cap ≤ R.slots)
    (hd : decode cb pc = .ok (.newarray aty, 2)) (hp : pc + 2 = pc') (k : ∀ T' h' a, own_A l Z own cb ml n0 p e R s m args below meth c T' h' locs (cells + 1) (slots + cap) → Ext h h' → h.size = a → n0 ≤ a → own_V Z h' a ty n (List.replicate n.toNatClampNeg 0) → own_E p e below G (T'.setTop (mkF m pc' Ls (.ref a :: S)))) : own_E p e below G (T.setTop (mkF m pc Ls (.int n :: S))) := by
  obtain ⟨X, hx, hZ, hby, hml, hown, eT, N, hsz, hlk⟩ := X
  subst hp; subst hty
  obtain ⟨T', h', cA, X', eT', E', A', stp⟩ := newP X hx hZ w eT (g := mkF m pc Ls (.int n :: S)) rfl (hb hby hd) rfl hn (cap := cap) hcap hb8 hc hs
  refine own_go stp (k _ _ _ ⟨X', hx, hZ, hby, hml, hown, eT', N, Nat.le_trans hsz E'.1, hlk⟩ E' rfl hsz ⟨cA, ?_, by simp⟩)
  have V := Arv.new A' hn
  rw [hdv] at V
  refine V.pad fun i => ?_
  rw [List.map_replicate]
  exact pad_rep [] (.int 0) n.toNatClampNeg i
theorem own_newW (X : own_A l Z own cb ml n0 p e R s m args below meth c T h locs cells slots) {n : Int32} (w : (Jvm.Cond.arrayClass .long).before a0 Z = true) (hn : ¬ n < 0) (cap : Nat) (hcap : n.toNatClampNeg ≤ cap) (hb8 : cap * 8 ≤ 536870912) (hc : cells + 1 ≤ R.cells) (hs : slots + cap ≤ R.slots)
    (hd : decode cb pc = .ok (.newarray .long, 2)) (hp : pc + 2 = pc') (k : ∀ T' h' a, own_A l Z own cb ml n0 p e R s m args below meth c T' h' locs (cells + 1) (slots + cap) → Ext h h' → h.size = a → n0 ≤ a → own_W Z h' a n (List.replicate n.toNatClampNeg 0) → own_E p e below G (T'.setTop (mkF m pc' Ls (.ref a :: S)))) : own_E p e below G (T.setTop (mkF m pc Ls (.int n :: S))) := by
  obtain ⟨X, hx, hZ, hby, hml, hown, eT, N, hsz, hlk⟩ := X
  subst hp
  obtain ⟨T', h', cA, X', eT', E', A', stp⟩ := newP X hx hZ (aty := .long) w eT (g := mkF m pc Ls (.int n :: S)) rfl (hb hby hd) rfl hn (cap := cap) hcap hb8 hc hs
  refine own_go stp (k _ _ _ ⟨X', hx, hZ, hby, hml, hown, eT', N, Nat.le_trans hsz E'.1, hlk⟩ E' rfl hsz ⟨cA, ?_, by simp⟩)
  have V := Arv.new A' hn
  refine V.pad fun i => ?_
  rw [List.map_replicate]
  exact pad_rep [] (.long 0) n.toNatClampNeg i
theorem own_bastore (X : own_A l Z own cb ml n0 p e R s m args below meth c T h locs cells slots) {a : Addr} {z j x y : Int32} {xs : List Int32} (V : own_V Z h a .byte z xs) (hg : n0 ≤ a) (hy : nar .byte x = y) (i : Nat) (hj : j.toNatClampNeg = i) (h0 : ¬ j < 0) (h1 : j < z)
    (hd : decode cb pc = .ok (.bastore, 1)) (hp : pc + 1 = pc') (k : ∀ T' h' locs', own_A l Z own cb ml n0 p e R s m args below meth c T' h' locs' cells slots → Wr h h' a j.toNatClampNeg (.int y) → own_V Z h' a .byte z (xs.set i y) → own_E p e below G (T'.setTop (mkF m pc' Ls S))) : own_E p e below G (T.setTop (mkF m pc Ls (.int x :: .int j :: .ref a :: S))) := by
  obtain ⟨X, hx, hZ, hby, hml, hown, eT, N, hsz, hlk⟩ := X
  obtain ⟨kc, ⟨cl, A, q1, q2, q3, H, F⟩, hlen⟩ := V
  subst hp; subst hy
  obtain ⟨T', h', X', eT', W, stp⟩ := stB X hx hZ eT A (j := j) (x := x) (inb_of q2 ⟨h0, h1⟩) (g := mkF m pc Ls (.int x :: .int j :: .ref a :: S)) rfl rfl (hb hby hd)
  refine own_go stp (k _ _ _ ⟨X', hx, hZ, hby, hml, hown, eT', Fr.snoc X' N hg, by rw [W.size]; exact hsz, hlk⟩ W ⟨kc, ?_, by rw [List.length_set]; exact hlen⟩)
  rw [List.map_set]
  exact Arv.set A q1 q2 q3 H F (fits_nar_byte _) W i hj (by rw [List.length_map, ← hj]; exact own_idx hlen h0 h1)
theorem own_iastore (X : own_A l Z own cb ml n0 p e R s m args below meth c T h locs cells slots) {a : Addr} {z j w x : Int32} {xs : List Int32} (V : own_V Z h a .int z xs) (hg : n0 ≤ a) (hy : w = x) (i : Nat) (hj : j.toNatClampNeg = i) (h0 : ¬ j < 0) (h1 : j < z)
    (hd : decode cb pc = .ok (.iastore, 1)) (hp : pc + 1 = pc') (k : ∀ T' h' locs', own_A l Z own cb ml n0 p e R s m args below meth c T' h' locs' cells slots → Wr h h' a j.toNatClampNeg (.int x) → own_V Z h' a .int z (xs.set i x) → own_E p e below G (T'.setTop (mkF m pc' Ls S))) : own_E p e below G (T.setTop (mkF m pc Ls (.int w :: .int j :: .ref a :: S))) := by
  obtain ⟨X, hx, hZ, hby, hml, hown, eT, N, hsz, hlk⟩ := X
  obtain ⟨kc, ⟨cl, A, q1, q2, q3, H, F⟩, hlen⟩ := V
  subst hp; subst hy
  obtain ⟨T', h', X', eT', W, stp⟩ := stI X hx hZ eT A (j := j) (x := w) (inb_of q2 ⟨h0, h1⟩) (g := mkF m pc Ls (.int w :: .int j :: .ref a :: S)) rfl rfl (hb hby hd)
  refine own_go stp (k _ _ _ ⟨X', hx, hZ, hby, hml, hown, eT', Fr.snoc X' N hg, by rw [W.size]; exact hsz, hlk⟩ W ⟨kc, ?_, by rw [List.length_set]; exact hlen⟩)
  rw [List.map_set]
  exact Arv.set A q1 q2 q3 H F rfl W i hj (by rw [List.length_map, ← hj]; exact own_idx hlen h0 h1)
theorem own_lastore (X : own_A l Z own cb ml n0 p e R s m args below meth c T h locs cells slots) {a : Addr} {z j : Int32} {w x : Int64} {xs : List Int64} (V : own_W Z h a z xs) (hg : n0 ≤ a) (hy : w = x) (i : Nat) (hj : j.toNatClampNeg = i) (h0 : ¬ j < 0) (h1 : j < z)
    (hd : decode cb pc = .ok (.lastore, 1)) (hp : pc + 1 = pc') (k : ∀ T' h' locs', own_A l Z own cb ml n0 p e R s m args below meth c T' h' locs' cells slots → Wr h h' a j.toNatClampNeg (.long x) → own_W Z h' a z (xs.set i x) → own_E p e below G (T'.setTop (mkF m pc' Ls S))) : own_E p e below G (T.setTop (mkF m pc Ls (.long w :: .int j :: .ref a :: S))) := by
  obtain ⟨X, hx, hZ, hby, hml, hown, eT, N, hsz, hlk⟩ := X
  obtain ⟨kc, ⟨cl, A, q1, q2, q3, H, F⟩, hlen⟩ := V
  subst hp; subst hy
  obtain ⟨T', h', X', eT', W, stp⟩ := stJ X hx hZ eT A (j := j) (x := w) (inb_of q2 ⟨h0, h1⟩) (g := mkF m pc Ls (.long w :: .int j :: .ref a :: S)) rfl rfl (hb hby hd)
  refine own_go stp (k _ _ _ ⟨X', hx, hZ, hby, hml, hown, eT', Fr.snoc X' N hg, by rw [W.size]; exact hsz, hlk⟩ W ⟨kc, ?_, by rw [List.length_set]; exact hlen⟩)
  rw [List.map_set]
  exact Arv.set A q1 q2 q3 H F rfl W i hj (by rw [List.length_map, ← hj]; exact own_idx hlen h0 h1)
theorem own_baload (X : own_A l Z own cb ml n0 p e R s m args below meth c T h locs cells slots) {a : Addr} {z j y : Int32} {xs : List Int32} (V : own_V Z h a .byte z xs) (h0 : ¬ j < 0) (h1 : j < z) (hy : xs.getD j.toNatClampNeg 0 = y) (hd : decode cb pc = .ok (.baload, 1)) (hp : pc + 1 = pc') (k : own_E p e below G (T.setTop (mkF m pc' Ls (.int y :: S)))) : own_E p e below G (T.setTop (mkF m pc Ls (.int j :: .ref a :: S))) := by
  obtain ⟨X, hx, hZ, hby, hml, hown, eT, N, hsz, hlk⟩ := X
  obtain ⟨kc, ⟨cl, A, q1, q2, q3, H, F⟩, hlen⟩ := V
  subst hp
  have hin := inb_of q2 (j := j) ⟨h0, h1⟩
  exact own_go (X.baloadBytes hx (j := j) (v := .int y) (by rw [eT]; exact A.1) (State.isArrayOf_alike hZ.alike A.2.1) A.2.2 hin (H.at hin (by rw [own_mapI, hy])) (g := mkF m pc Ls (.int j :: .ref a :: S)) rfl rfl (hb hby hd)) k
theorem own_iaload (X : own_A l Z own cb ml n0 p e R s m args below meth c T h locs cells slots) {a : Addr} {z j y : Int32} {xs : List Int32} (V : own_V Z h a .int z xs) (h0 : ¬ j < 0) (h1 : j < z) (hy : xs.getD j.toNatClampNeg 0 = y) (hd : decode cb pc = .ok (.iaload, 1)) (hp : pc + 1 = pc') (k : own_E p e below G (T.setTop (mkF m pc' Ls (.int y :: S)))) : own_E p e below G (T.setTop (mkF m pc Ls (.int j :: .ref a :: S))) := by
  obtain ⟨X, hx, hZ, hby, hml, hown, eT, N, hsz, hlk⟩ := X
  obtain ⟨kc, ⟨cl, A, q1, q2, q3, H, F⟩, hlen⟩ := V
  subst hp
  have hin := inb_of q2 (j := j) ⟨h0, h1⟩
  exact own_go (X.iaload hx (j := j) (v := .int y) (by rw [eT]; exact A.1) (State.isArrayOf_alike hZ.alike A.2.1) A.2.2 hin (H.at hin (by rw [own_mapI, hy])) (g := mkF m pc Ls (.int j :: .ref a :: S)) rfl rfl (hb hby hd)) k
theorem own_laload (X : own_A l Z own cb ml n0 p e R s m args below meth c T h locs cells slots) {a : Addr} {z j : Int32} {y : Int64} {xs : List Int64} (V : own_W Z h a z xs) (h0 : ¬ j < 0) (h1 : j < z) (hy : xs.getD j.toNatClampNeg 0 = y) (hd : decode cb pc = .ok (.laload, 1)) (hp : pc + 1 = pc') (k : own_E p e below G (T.setTop (mkF m pc' Ls (.long y :: S)))) : own_E p e below G (T.setTop (mkF m pc Ls (.int j :: .ref a :: S))) := by
  obtain ⟨X, hx, hZ, hby, hml, hown, eT, N, hsz, hlk⟩ := X
  obtain ⟨kc, ⟨cl, A, q1, q2, q3, H, F⟩, hlen⟩ := V
  subst hp
  have hin := inb_of q2 (j := j) ⟨h0, h1⟩
  exact own_go (X.laload hx (j := j) (v := .long y) (by rw [eT]; exact A.1) (State.isArrayOf_alike hZ.alike A.2.1) A.2.2 hin (H.at hin (by rw [own_mapL, hy])) (g := mkF m pc Ls (.int j :: .ref a :: S)) rfl rfl (hb hby hd)) k
theorem own_alen (X : own_A l Z own cb ml n0 p e R s m args below meth c T h locs cells slots) {a : Addr} {z : Int32} {ty : FieldType} {xs : List Int32} (V : own_V Z h a ty z xs) (hd : decode cb pc = .ok (.arraylength, 1)) (hp : pc + 1 = pc') (k : own_E p e below G (T.setTop (mkF m pc' Ls (.int z :: S)))) : own_E p e below G (T.setTop (mkF m pc Ls (.ref a :: S))) := by
  obtain ⟨X, hx, hZ, hby, hml, hown, eT, N, hsz, hlk⟩ := X
  obtain ⟨kc, ⟨cl, A, q1, q2, q3, H, F⟩, hlen⟩ := V
  subst hp
  refine own_go (X.arraylength hx (by rw [eT]; exact A.1) (State.isArrayOf_alike hZ.alike A.2.1) (g := mkF m pc Ls (.ref a :: S)) rfl rfl (hb hby hd)) ?_
  rw [len_of q2 q3]; exact k
end OwnKit
/-! OWN NUMBERS -/
theorem own_adL {a b : Int64} (h1 : -9223372036854775808 ≤ a.toInt + b.toInt) (h2 : a.toInt + b.toInt < 9223372036854775808) : (a + b).toInt = a.toInt + b.toInt := by
  rw [Int64.toInt_add]; exact Int.bmod_eq_of_le_mul_two (by omega) (by omega)
theorem own_sbL {a b : Int64} (h1 : -9223372036854775808 ≤ a.toInt - b.toInt) (h2 : a.toInt - b.toInt < 9223372036854775808) : (a - b).toInt = a.toInt - b.toInt := by
  rw [Int64.toInt_sub]; exact Int.bmod_eq_of_le_mul_two (by omega) (by omega)
theorem own_mlL {a b : Int64} (h1 : -9223372036854775808 ≤ a.toInt * b.toInt) (h2 : a.toInt * b.toInt < 9223372036854775808) : (a * b).toInt = a.toInt * b.toInt := by
  rw [Int64.toInt_mul]; exact Int.bmod_eq_of_le_mul_two (by omega) (by omega)
theorem own_ad {a b : Int32} (h1 : -2147483648 ≤ a.toInt + b.toInt) (h2 : a.toInt + b.toInt < 2147483648) : (a + b).toInt = a.toInt + b.toInt := by
  rw [Int32.toInt_add]; exact Int.bmod_eq_of_le_mul_two (by omega) (by omega)
theorem own_sb {a b : Int32} (h1 : -2147483648 ≤ a.toInt - b.toInt) (h2 : a.toInt - b.toInt < 2147483648) : (a - b).toInt = a.toInt - b.toInt := by
  rw [Int32.toInt_sub]; exact Int.bmod_eq_of_le_mul_two (by omega) (by omega)
theorem own_ml {a b : Int32} (h1 : -2147483648 ≤ a.toInt * b.toInt) (h2 : a.toInt * b.toInt < 2147483648) : (a * b).toInt = a.toInt * b.toInt := by
  rw [Int32.toInt_mul]; exact Int.bmod_eq_of_le_mul_two (by omega) (by omega)
theorem own_dvL {a b : Int64} (h0 : 0 ≤ a.toInt) (h1 : 0 < b.toInt) : (a / b).toInt = a.toInt / b.toInt := by
  rw [Int64.toInt_div, Int.tdiv_eq_ediv_of_nonneg h0]
  have := Int64.toInt_lt a
  have h2 : a.toInt / b.toInt ≤ a.toInt := Int.ediv_le_self _ h0
  have h3 : 0 ≤ a.toInt / b.toInt := Int.ediv_nonneg h0 (by omega)
  exact Int.bmod_eq_of_le_mul_two (by omega) (by omega)
theorem own_dv {a b : Int32} (h0 : 0 ≤ a.toInt) (h1 : 0 < b.toInt) : (a / b).toInt = a.toInt / b.toInt := by
  rw [Int32.toInt_div, Int.tdiv_eq_ediv_of_nonneg h0]
  have := Int32.toInt_lt a
  have h2 : a.toInt / b.toInt ≤ a.toInt := Int.ediv_le_self _ h0
  have h3 : 0 ≤ a.toInt / b.toInt := Int.ediv_nonneg h0 (by omega)
  exact Int.bmod_eq_of_le_mul_two (by omega) (by omega)
theorem own_rmL {a b : Int64} (h0 : 0 ≤ a.toInt) : (a % b).toInt = a.toInt % b.toInt := by
  rw [Int64.toInt_mod, Int.tmod_eq_emod_of_nonneg h0]
theorem own_rm {a b : Int32} (h0 : 0 ≤ a.toInt) : (a % b).toInt = a.toInt % b.toInt := by
  rw [Int32.toInt_mod, Int.tmod_eq_emod_of_nonneg h0]
theorem own_ltL {a b : Int64} : a < b ↔ a.toInt < b.toInt := Int64.lt_iff_toInt_lt
theorem own_lt {a b : Int32} : a < b ↔ a.toInt < b.toInt := Int32.lt_iff_toInt_lt
theorem own_eqL {a b : Int64} : a = b ↔ a.toInt = b.toInt := Int64.toInt_inj.symm
theorem own_eq {a b : Int32} : a = b ↔ a.toInt = b.toInt := Int32.toInt_inj.symm
theorem own_mkL {a b : Int64} {k : Nat} (hk : k < 64) (hb : b.toBitVec.toNat = 2 ^ k - 1) : (a &&& b).toInt = a.toInt % (2 ^ k : Nat) := by
  have e : (a &&& b).toBitVec.toNat = a.toBitVec.toNat % 2 ^ k := by rw [Int64.toBitVec_and, BitVec.toNat_and, hb, Nat.and_two_pow_sub_one_eq_mod]
  have hlt : a.toBitVec.toNat % 2 ^ k < 2 ^ 63 := Nat.lt_of_lt_of_le (Nat.mod_lt _ (Nat.two_pow_pos k)) (Nat.pow_le_pow_right (by decide) (by omega))
  have e2 : (a &&& b).toInt = ((a.toBitVec.toNat % 2 ^ k : Nat) : Int) := by
    show (a &&& b).toBitVec.toInt = _
    rw [BitVec.toInt_eq_toNat_cond, e, if_pos (by omega)]
  rw [e2]
  show _ = a.toBitVec.toInt % _
  rw [BitVec.toInt_eq_toNat_cond]
  have hd : ((2 ^ 64 : Nat) : Int) % ((2 ^ k : Nat) : Int) = 0 := by
    rw [← Int.natCast_emod, Nat.mod_eq_zero_of_dvd (Nat.pow_dvd_pow 2 (by omega))]; rfl
  split
  · rw [Int.natCast_emod]
  · rw [Int.sub_emod, hd, Int.sub_zero, Int.emod_emod_of_dvd _ (Int.dvd_refl _), Int.natCast_emod]
theorem own_mk {a b : Int32} {k : Nat} (hk : k < 32) (hb : b.toBitVec.toNat = 2 ^ k - 1) : (a &&& b).toInt = a.toInt % (2 ^ k : Nat) := by
  have e : (a &&& b).toBitVec.toNat = a.toBitVec.toNat % 2 ^ k := by rw [Int32.toBitVec_and, BitVec.toNat_and, hb, Nat.and_two_pow_sub_one_eq_mod]
  have hlt : a.toBitVec.toNat % 2 ^ k < 2 ^ 31 := Nat.lt_of_lt_of_le (Nat.mod_lt _ (Nat.two_pow_pos k)) (Nat.pow_le_pow_right (by decide) (by omega))
  have e2 : (a &&& b).toInt = ((a.toBitVec.toNat % 2 ^ k : Nat) : Int) := by
    show (a &&& b).toBitVec.toInt = _
    rw [BitVec.toInt_eq_toNat_cond, e, if_pos (by omega)]
  rw [e2]
  show _ = a.toBitVec.toInt % _
  rw [BitVec.toInt_eq_toNat_cond]
  have hd : ((2 ^ 32 : Nat) : Int) % ((2 ^ k : Nat) : Int) = 0 := by
    rw [← Int.natCast_emod, Nat.mod_eq_zero_of_dvd (Nat.pow_dvd_pow 2 (by omega))]; rfl
  split
  · rw [Int.natCast_emod]
  · rw [Int.sub_emod, hd, Int.sub_zero, Int.emod_emod_of_dvd _ (Int.dvd_refl _), Int.natCast_emod]
theorem own_AL {a b : Int64} {x y : Int} (ha : a.toInt = x) (hb : b.toInt = y) (h1 : -9223372036854775808 ≤ x + y) (h2 : x + y < 9223372036854775808) : (a + b).toInt = x + y := by subst ha hb; exact own_adL h1 h2
theorem own_SL {a b : Int64} {x y : Int} (ha : a.toInt = x) (hb : b.toInt = y) (h1 : -9223372036854775808 ≤ x - y) (h2 : x - y < 9223372036854775808) : (a - b).toInt = x - y := by subst ha hb; exact own_sbL h1 h2
theorem own_ML {a b : Int64} {x y : Int} (ha : a.toInt = x) (hb : b.toInt = y) (h1 : -9223372036854775808 ≤ x * y) (h2 : x * y < 9223372036854775808) : (a * b).toInt = x * y := by subst ha hb; exact own_mlL h1 h2
theorem own_DL {a b : Int64} {x y : Int} (ha : a.toInt = x) (hb : b.toInt = y) (h1 : 0 ≤ x) (h2 : 0 < y) : (a / b).toInt = x / y := by subst ha hb; exact own_dvL h1 h2
theorem own_RL {a b : Int64} {x y : Int} (ha : a.toInt = x) (hb : b.toInt = y) (h1 : 0 ≤ x) : (a % b).toInt = x % y := by subst ha hb; exact own_rmL h1
theorem own_AI {a b : Int32} {x y : Int} (ha : a.toInt = x) (hb : b.toInt = y) (h1 : -2147483648 ≤ x + y) (h2 : x + y < 2147483648) : (a + b).toInt = x + y := by subst ha hb; exact own_ad h1 h2
theorem own_SI {a b : Int32} {x y : Int} (ha : a.toInt = x) (hb : b.toInt = y) (h1 : -2147483648 ≤ x - y) (h2 : x - y < 2147483648) : (a - b).toInt = x - y := by subst ha hb; exact own_sb h1 h2
theorem own_MI {a b : Int32} {x y : Int} (ha : a.toInt = x) (hb : b.toInt = y) (h1 : -2147483648 ≤ x * y) (h2 : x * y < 2147483648) : (a * b).toInt = x * y := by subst ha hb; exact own_ml h1 h2
theorem own_DI {a b : Int32} {x y : Int} (ha : a.toInt = x) (hb : b.toInt = y) (h1 : 0 ≤ x) (h2 : 0 < y) : (a / b).toInt = x / y := by subst ha hb; exact own_dv h1 h2
theorem own_RI {a b : Int32} {x y : Int} (ha : a.toInt = x) (hb : b.toInt = y) (h1 : 0 ≤ x) : (a % b).toInt = x % y := by subst ha hb; exact own_rm h1
theorem own_pos {z : Int32} (h : ¬ z < 0) (h1 : ¬ z = 0) : (0 : Int32) < z := by
  have e0 : (0 : Int32).toInt = 0 := rfl
  rw [own_lt] at *; rw [own_eq] at h1; omega
theorem own_last {z : Int32} (h : (0 : Int32) < z) : ¬ z - 1 < 0 ∧ z - 1 < z := by
  have e0 : (0 : Int32).toInt = 0 := rfl
  have e1 : (1 : Int32).toInt = 1 := rfl
  have hl := Int32.toInt_lt z
  rw [own_lt] at h
  have a : (z - 1).toInt = z.toInt - 1 := own_SI rfl e1 (by omega) (by omega)
  rw [own_lt, own_lt]; omega
theorem own_gs {α : Type} (l : List α) (i j : Nat) (v d : α) (hi : i < l.length) : (l.set i v).getD j d = if i = j then v else l.getD j d := by
  simp only [List.getD_eq_getElem?_getD]
  by_cases h : i = j
  · subst h; rw [if_pos rfl, List.getElem?_set_self hi]; rfl
  · rw [if_neg h, List.getElem?_set_ne h]
theorem own_cl {n : Int32} {k : Int} (h : n.toInt = k) : n.toNatClampNeg = k.toNat := by subst h; rfl
theorem own_b8 {t : Int32} (h0 : -128 ≤ t.toInt) (h1 : t.toInt < 128) : t.toInt8.toInt32 = t := by
  rw [own_eq, Int8.toInt_toInt32, Int32.toInt_toInt8]
  exact Int.bmod_eq_of_le_mul_two (by omega) (by omega)
theorem own_i8 {t : Int32} {x : Int} (h : t.toInt = x) : (t.toInt8.toInt32).toInt = (x + 128) % 256 - 128 := by
  subst h
  rw [Int8.toInt_toInt32, Int32.toInt_toInt8, Int.bmod_def]
  split <;> omega
theorem own_shrI {a b : Int32} {x : Int} {k : Nat} (h : a.toInt = x) (hb : (b.toBitVec.smod (BitVec.ofNat 32 32)).toNat = k) : (a >>> b).toInt = x / (2 ^ k : Nat) := by
  subst h; subst hb
  show (a.toBitVec.sshiftRight' (b.toBitVec.smod (BitVec.ofNat 32 32))).toInt = _
  rw [BitVec.toInt_sshiftRight', Int.shiftRight_eq_div_pow]; rfl
theorem own_shlI {a b : Int32} {x : Int} {k : Nat} (h : a.toInt = x) (hb : (b.toBitVec.smod (BitVec.ofNat 32 32)).toNat = k) (h1 : -2147483648 ≤ x * (2 ^ k : Nat)) (h2 : x * (2 ^ k : Nat) < 2147483648) : (a <<< b).toInt = x * (2 ^ k : Nat) := by
  subst h; subst hb
  show (a.toBitVec <<< (b.toBitVec.smod (BitVec.ofNat 32 32))).toInt = a.toBitVec.toInt * _
  rw [BitVec.shiftLeft_eq', BitVec.toInt_shiftLeft, Nat.shiftLeft_eq, BitVec.toInt_eq_toNat_bmod]
  rw [show ((a.toBitVec.toNat * 2 ^ (b.toBitVec.smod (BitVec.ofNat 32 32)).toNat : Nat) : Int) = (a.toBitVec.toNat : Int) * ((2 ^ (b.toBitVec.smod (BitVec.ofNat 32 32)).toNat : Nat) : Int) from by simp]
  rw [← Int.bmod_mul_bmod]
  have e : ((a.toBitVec.toNat : Int).bmod (2 ^ 32)) = a.toInt := (BitVec.toInt_eq_toNat_bmod _).symm
  rw [e]
  exact Int.bmod_eq_of_le_mul_two (by omega) (by omega)
theorem own_orI {a b : Int32} {x y : Int} (k : Nat) (ha : a.toInt = x) (hb : b.toInt = y) (hk : k ≤ 31) (hx : x % (2 ^ k : Nat) = 0) (h0 : 0 ≤ y) (h1 : y < (2 ^ k : Nat)) (h2 : 0 ≤ x) : (a ||| b).toInt = x + y := by
  have la := a.toBitVec.isLt; have lb := b.toBitVec.isLt
  have na : (a.toBitVec.toNat : Int) = x := by
    have : a.toBitVec.toInt = x := ha
    rw [BitVec.toInt_eq_toNat_cond] at this; split at this <;> omega
  have nb : (b.toBitVec.toNat : Int) = y := by
    have : b.toBitVec.toInt = y := hb
    rw [BitVec.toInt_eq_toNat_cond] at this; split at this <;> omega
  have hm : a.toBitVec.toNat % 2 ^ k = 0 := by
    have : ((a.toBitVec.toNat % 2 ^ k : Nat) : Int) = 0 := by rw [Int.natCast_emod, na]; exact hx
    omega
  have hl : b.toBitVec.toNat < 2 ^ k := by omega
  have ho : a.toBitVec.toNat ||| b.toBitVec.toNat = a.toBitVec.toNat + b.toBitVec.toNat := by
    have hd : a.toBitVec.toNat = 2 ^ k * (a.toBitVec.toNat / 2 ^ k) := by
      have := Nat.div_add_mod a.toBitVec.toNat (2 ^ k); omega
    rw [hd, Nat.two_pow_add_eq_or_of_lt hl]
  have q : (a ||| b).toBitVec.toNat = a.toBitVec.toNat + b.toBitVec.toNat := by rw [Int32.toBitVec_or, BitVec.toNat_or, ho]
  have hA : a.toBitVec.toNat < 2 ^ 31 := by
    have : a.toBitVec.toInt = x := ha
    rw [BitVec.toInt_eq_toNat_cond] at this; split at this <;> omega
  have hB : b.toBitVec.toNat < 2 ^ 31 := by
    have : b.toBitVec.toInt = y := hb
    rw [BitVec.toInt_eq_toNat_cond] at this; split at this <;> omega
  have hS : a.toBitVec.toNat + b.toBitVec.toNat < 2 ^ 31 := by rw [← ho]; exact Nat.or_lt_two_pow hA hB
  show (a ||| b).toBitVec.toInt = _
  rw [BitVec.toInt_eq_toNat_cond, q, if_pos (by omega)]
  omega
theorem own_yes {c : Prop} [d : Decidable c] {a b r : Int32} (h : c) (h2 : a = r) : (if c then a else b) = r := (if_pos h).trans h2
theorem own_no {c : Prop} [d : Decidable c] {a b r : Int32} (h : ¬ c) (h2 : b = r) : (if c then a else b) = r := (if_neg h).trans h2
theorem own_d1_0 : decode method_3_code 0 = .ok (.iload_n 0, 1) := by decide +kernel
theorem own_d1_1 : decode method_3_code 1 = .ok (.iload_n 1, 1) := by decide +kernel
theorem own_d1_2 : decode method_3_code 2 = .ok (.iushr, 1) := by decide +kernel
theorem own_d1_3 : decode method_3_code 3 = .ok (.iconst 1, 1) := by decide +kernel
theorem own_d1_4 : decode method_3_code 4 = .ok (.iand, 1) := by decide +kernel
theorem own_d1_5 : decode method_3_code 5 = .ok (.ifCond .eq 5, 3) := by decide +kernel
theorem own_d1_8 : decode method_3_code 8 = .ok (.iload_n 3, 1) := by decide +kernel
theorem own_d1_9 : decode method_3_code 9 = .ok (.ireturn, 1) := by decide +kernel
theorem own_d1_10 : decode method_3_code 10 = .ok (.iload_n 2, 1) := by decide +kernel
theorem own_d1_11 : decode method_3_code 11 = .ok (.bipush 8, 2) := by decide +kernel
theorem own_d1_13 : decode method_3_code 13 = .ok (.iload_n 1, 1) := by decide +kernel
theorem own_d1_14 : decode method_3_code 14 = .ok (.imul, 1) := by decide +kernel
theorem own_d1_15 : decode method_3_code 15 = .ok (.iushr, 1) := by decide +kernel
theorem own_d1_16 : decode method_3_code 16 = .ok (.i2b, 1) := by decide +kernel
theorem own_d1_17 : decode method_3_code 17 = .ok (.ireturn, 1) := by decide +kernel
theorem own_ef1 (p1 : Int32) (p2 : Int32) (p3 : Int32) (p4 : Int32) (m : MethodId) : entryFrame m #[(.int p1), (.int p2), (.int p3), (.int p4)] 4 = mkF m 0 #[.val (.int p1), .val (.int p2), .val (.int p3), .val (.int p4)] [] := by first | (simp [entryFrame, mkF, argsToLocals, Value.category]; done) | rfl
theorem own_pf1 : plainFor (⟨"com/example/orderflot/orderflot/fix/FixMessageIndexOfPinLaw", "pick", "(IIIB)B"⟩ : MethodName) = true := by first | exact plainFor_of_name (by first | (simp [plainName, overriddenIn]; done) | decide +kernel) | decide +kernel
def own_F1 (p1 : Int32) (p2 : Int32) (p3 : Int32) (p4 : Int32) : Int32 := (if (((p1.toUInt32 >>> (p2 &&& 31).toUInt32).toInt32) &&& (1 : Int32)) = (0 : Int32) then ((((p3.toUInt32 >>> (((8 : Int32) * p2) &&& 31).toUInt32).toInt32).toInt8.toInt32).toInt8.toInt32) else (p4.toInt8.toInt32))
set_option maxRecDepth 65536 in
set_option maxHeartbeats 40000000 in
theorem own_rm1 (l : Launch) (Z : State) (a0 : Array Value) (hw : ∀ d ∈ tables_1, d.before a0 Z = true) (p1 : Int32) (p2 : Int32) (p3 : Int32) (p4 : Int32) (h0 : Heap) (n0 : Nat) (Z0 : n0 ≤ h0.size) :
    own_Con l Z (⟨"com/example/orderflot/orderflot/fix/FixMessageIndexOfPinLaw", "pick", "(IIIB)B"⟩ : MethodName) method_3_code 4 (some .byte) ({ frames := 0, cells := 0, slots := 0, locals := 0 } : Room) #[(.int p1), (.int p2), (.int p3), (.int p4)] h0 n0 (fun v h => v = some (.int (own_F1 p1 p2 p3 p4)) ∧ h = h0) := by
  refine own_enter own_pf1 Z0 (own_ef1 p1 p2 p3 p4) ?_
  intro p e s m below meth c T0 X0 hret hnm
  refine own_iloadN X0 own_d1_0 (pc' := 1) rfl (v := p1) rfl ?_
  refine own_iloadN X0 own_d1_1 (pc' := 2) rfl (v := p2) rfl ?_
  refine own_iushr X0 own_d1_2 (pc' := 3) rfl (z := ((p1.toUInt32 >>> (p2 &&& 31).toUInt32).toInt32)) rfl ?_
  refine own_iconst X0 own_d1_3 (pc' := 4) rfl (z := (1 : Int32)) rfl ?_
  refine own_iand X0 own_d1_4 (pc' := 5) rfl (z := (((p1.toUInt32 >>> (p2 &&& 31).toUInt32).toInt32) &&& (1 : Int32))) rfl ?_
  by_cases hc1 : (((p1.toUInt32 >>> (p2 &&& 31).toUInt32).toInt32) &&& (1 : Int32)) = (0 : Int32)
  · refine own_ifY X0 own_d1_5 (teq hc1).1 (by decide) (pc' := 10) rfl ?_
    refine own_iloadN X0 own_d1_10 (pc' := 11) rfl (v := p3) rfl ?_
    refine own_bipush X0 own_d1_11 (pc' := 13) rfl (z := (8 : Int32)) rfl ?_
    refine own_iloadN X0 own_d1_13 (pc' := 14) rfl (v := p2) rfl ?_
    refine own_imul X0 own_d1_14 (pc' := 15) rfl (z := ((8 : Int32) * p2)) rfl ?_
    refine own_iushr X0 own_d1_15 (pc' := 16) rfl (z := ((p3.toUInt32 >>> (((8 : Int32) * p2) &&& 31).toUInt32).toInt32)) rfl ?_
    refine own_i2b X0 own_d1_16 (pc' := 17) rfl (z := (((p3.toUInt32 >>> (((8 : Int32) * p2) &&& 31).toUInt32).toInt32).toInt8.toInt32)) rfl ?_
    refine own_iret X0 (t := .byte) (w := ((((p3.toUInt32 >>> (((8 : Int32) * p2) &&& 31).toUInt32).toInt32).toInt8.toInt32).toInt8.toInt32)) hret (by simp) own_d1_17 rfl (by decide) (by decide) ?_
    exact ⟨congrArg (fun t => some (Value.int t)) (show ((((p3.toUInt32 >>> (((8 : Int32) * p2) &&& 31).toUInt32).toInt32).toInt8.toInt32).toInt8.toInt32) = own_F1 p1 p2 p3 p4 from (by rw [own_F1, if_pos hc1])), rfl⟩
  · refine own_ifN X0 own_d1_5 (feq hc1).1 (pc' := 8) rfl ?_
    refine own_iloadN X0 own_d1_8 (pc' := 9) rfl (v := p4) rfl ?_
    refine own_iret X0 (t := .byte) (w := (p4.toInt8.toInt32)) hret (by simp) own_d1_9 rfl (by decide) (by decide) ?_
    exact ⟨congrArg (fun t => some (Value.int t)) (show (p4.toInt8.toInt32) = own_F1 p1 p2 p3 p4 from (by rw [own_F1, if_neg hc1])), rfl⟩
theorem own_d2_0 : decode prog_22_method_16_code 0 = .ok (.iconst (-1), 1) := by decide +kernel
theorem own_d2_1 : decode prog_22_method_16_code 1 = .ok (.istore 4, 2) := by decide +kernel
theorem own_d2_3 : decode prog_22_method_16_code 3 = .ok (.iload_n 2, 1) := by decide +kernel
theorem own_d2_4 : decode prog_22_method_16_code 4 = .ok (.istore 5, 2) := by decide +kernel
theorem own_d2_6 : decode prog_22_method_16_code 6 = .ok (.iload 5, 2) := by decide +kernel
theorem own_d2_8 : decode prog_22_method_16_code 8 = .ok (.iload_n 3, 1) := by decide +kernel
theorem own_d2_9 : decode prog_22_method_16_code 9 = .ok (.if_icmp .ge 24, 3) := by decide +kernel
theorem own_d2_12 : decode prog_22_method_16_code 12 = .ok (.aload_n 0, 1) := by decide +kernel
theorem own_d2_13 : decode prog_22_method_16_code 13 = .ok (.iload 5, 2) := by decide +kernel
theorem own_d2_15 : decode prog_22_method_16_code 15 = .ok (.baload, 1) := by decide +kernel
theorem own_d2_16 : decode prog_22_method_16_code 16 = .ok (.iload_n 1, 1) := by decide +kernel
theorem own_d2_17 : decode prog_22_method_16_code 17 = .ok (.if_icmp .ne 10, 3) := by decide +kernel
theorem own_d2_20 : decode prog_22_method_16_code 20 = .ok (.iload 5, 2) := by decide +kernel
theorem own_d2_22 : decode prog_22_method_16_code 22 = .ok (.istore 4, 2) := by decide +kernel
theorem own_d2_24 : decode prog_22_method_16_code 24 = .ok (.goto 9, 3) := by decide +kernel
theorem own_d2_27 : decode prog_22_method_16_code 27 = .ok (.iinc 5 1, 3) := by decide +kernel
theorem own_d2_30 : decode prog_22_method_16_code 30 = .ok (.goto (-24), 3) := by decide +kernel
theorem own_d2_33 : decode prog_22_method_16_code 33 = .ok (.iload 4, 2) := by decide +kernel
theorem own_d2_35 : decode prog_22_method_16_code 35 = .ok (.ireturn, 1) := by decide +kernel
theorem own_ef2 (a1 : Addr) (p2 : Int32) (p3 : Int32) (p4 : Int32) (m : MethodId) : entryFrame m #[(.ref a1), (.int p2), (.int p3), (.int p4)] 6 = mkF m 0 #[.val (.ref a1), .val (.int p2), .val (.int p3), .val (.int p4), .unset, .unset] [] := by first | (simp [entryFrame, mkF, argsToLocals, Value.category]; done) | rfl
theorem own_pf2 : plainFor (⟨"com/example/orderflot/orderflot/fix/FixMessage", "indexOf", "([BBII)I"⟩ : MethodName) = true := by first | exact plainFor_of_name (by first | (simp [plainName, overriddenIn]; done) | decide +kernel) | decide +kernel
def own_F2 (xs_a1 : List Int32) (p2 : Int32) (p3 : Int32) (p4 : Int32) : Int32 := (if p3 < p4 then (if (List.getD xs_a1 (p3.toNatClampNeg) 0) = p2 then p3 else (if (p3 + (1 : Int32)) < p4 then (if (List.getD xs_a1 ((p3 + (1 : Int32)).toNatClampNeg) 0) = p2 then (p3 + (1 : Int32)) else (if (p3 + (2 : Int32)) < p4 then (if (List.getD xs_a1 ((p3 + (2 : Int32)).toNatClampNeg) 0) = p2 then (p3 + (2 : Int32)) else (if (p3 + (3 : Int32)) < p4 then (if (List.getD xs_a1 ((p3 + (3 : Int32)).toNatClampNeg) 0) = p2 then (p3 + (3 : Int32)) else (-1 : Int32)) else (-1 : Int32))) else (-1 : Int32))) else (-1 : Int32))) else (-1 : Int32))
theorem own_ib {f t k : Int32} (hf : ¬ f < (0 : Int32)) (ht : ¬ (4 : Int32) < t) (h0 : f < t) (k0 : 0 ≤ k.toInt) (k1 : k.toInt ≤ 8) : (f + k).toInt = f.toInt + k.toInt ∧ (f + k < t → ¬ f + k < 0 ∧ f + k < 4) := by
  have e0 : (0 : Int32).toInt = 0 := rfl
  have e4 : (4 : Int32).toInt = 4 := rfl
  simp only [own_lt, e0, e4] at *
  have a : (f + k).toInt = f.toInt + k.toInt := own_AI rfl rfl (by omega) (by omega)
  exact ⟨a, fun q => by omega⟩
theorem own_ib0 {f t : Int32} (ht : ¬ (4 : Int32) < t) (h0 : f < t) : f < 4 := by
  have e4 : (4 : Int32).toInt = 4 := rfl
  simp only [own_lt, e4] at *; omega
theorem own_stop {f t : Int32} (hf : ¬ f < (0 : Int32)) (ht : ¬ (4 : Int32) < t) (h0 : f < t) : ¬ f + 4 < t := by
  have a := (own_ib (k := 4) hf ht h0 (by decide) (by decide)).1
  have e0 : (0 : Int32).toInt = 0 := rfl
  have e4 : (4 : Int32).toInt = 4 := rfl
  simp only [own_lt, e0, e4] at *; omega
set_option maxRecDepth 65536 in
set_option maxHeartbeats 40000000 in
theorem own_rm2 (l : Launch) (Z : State) (a0 : Array Value) (hw : ∀ d ∈ tables_1, d.before a0 Z = true) (a1 : Addr) (xs_a1 : List Int32) (p2 : Int32) (p3 : Int32) (p4 : Int32) (h0 : Heap) (n0 : Nat) (Z0 : n0 ≤ h0.size) (V_a1 : own_V Z h0 a1 .byte (4 : Int32) xs_a1) (hf : ¬ p3 < (0 : Int32)) (ht : ¬ (4 : Int32) < p4) :
    own_Con l Z (⟨"com/example/orderflot/orderflot/fix/FixMessage", "indexOf", "([BBII)I"⟩ : MethodName) prog_22_method_16_code 6 (some .int) ({ frames := 0, cells := 0, slots := 0, locals := 0 } : Room) #[(.ref a1), (.int p2), (.int p3), (.int p4)] h0 n0 (fun v h => v = some (.int (own_F2 xs_a1 p2 p3 p4)) ∧ h = h0) := by
  refine own_enter own_pf2 Z0 (own_ef2 a1 p2 p3 p4) ?_
  intro p e s m below meth c T0 X0 hret hnm
  refine own_iconst X0 own_d2_0 (pc' := 1) rfl (z := (-1 : Int32)) rfl ?_
  refine own_istore X0 own_d2_1 (pc' := 3) rfl (y := (-1 : Int32)) rfl (Ls' := #[.val (.ref a1), .val (.int p2), .val (.int p3), .val (.int p4), .val (.int (-1 : Int32)), .unset]) rfl ?_
  refine own_iloadN X0 own_d2_3 (pc' := 4) rfl (v := p3) rfl ?_
  refine own_istore X0 own_d2_4 (pc' := 6) rfl (y := p3) rfl (Ls' := #[.val (.ref a1), .val (.int p2), .val (.int p3), .val (.int p4), .val (.int (-1 : Int32)), .val (.int p3)]) rfl ?_
  refine own_iload X0 own_d2_6 (pc' := 8) rfl (v := p3) rfl ?_
  refine own_iloadN X0 own_d2_8 (pc' := 9) rfl (v := p4) rfl ?_
  by_cases hc1 : p3 < p4
  · refine own_icmpN X0 own_d2_9 (tlt hc1).2.1 (pc' := 12) rfl ?_
    refine own_aloadN X0 own_d2_12 (pc' := 13) rfl (v := (.ref a1)) rfl rfl ?_
    refine own_iload X0 own_d2_13 (pc' := 15) rfl (v := p3) rfl ?_
    refine own_baload X0 V_a1 hf (own_ib0 ht hc1) (y := (List.getD xs_a1 (p3.toNatClampNeg) 0)) rfl own_d2_15 (pc' := 16) rfl ?_
    refine own_iloadN X0 own_d2_16 (pc' := 17) rfl (v := p2) rfl ?_
    by_cases hc2 : (List.getD xs_a1 (p3.toNatClampNeg) 0) = p2
    · refine own_icmpN X0 own_d2_17 (teq hc2).2 (pc' := 20) rfl ?_
      refine own_iload X0 own_d2_20 (pc' := 22) rfl (v := p3) rfl ?_
      refine own_istore X0 own_d2_22 (pc' := 24) rfl (y := p3) rfl (Ls' := #[.val (.ref a1), .val (.int p2), .val (.int p3), .val (.int p4), .val (.int p3), .val (.int p3)]) rfl ?_
      refine own_goto X0 own_d2_24 (by decide) (pc' := 33) rfl ?_
      refine own_iload X0 own_d2_33 (pc' := 35) rfl (v := p3) rfl ?_
      refine own_iret X0 (t := .int) (w := p3) hret (by simp) own_d2_35 rfl (by decide) (by decide) ?_
      exact ⟨congrArg (fun t => some (Value.int t)) (show p3 = own_F2 xs_a1 p2 p3 p4 from (by rw [own_F2, if_pos hc1, if_pos hc2])), rfl⟩
    · refine own_icmpY X0 own_d2_17 (feq hc2).2 (by decide) (pc' := 27) rfl ?_
      refine own_iinc X0 own_d2_27 (pc' := 30) rfl (x := p3) rfl (z := (p3 + (1 : Int32))) rfl (Ls' := #[.val (.ref a1), .val (.int p2), .val (.int p3), .val (.int p4), .val (.int (-1 : Int32)), .val (.int (p3 + (1 : Int32)))]) rfl ?_
      refine own_goto X0 own_d2_30 (by decide) (pc' := 6) rfl ?_
      refine own_iload X0 own_d2_6 (pc' := 8) rfl (v := (p3 + (1 : Int32))) rfl ?_
      refine own_iloadN X0 own_d2_8 (pc' := 9) rfl (v := p4) rfl ?_
      by_cases hc3 : (p3 + (1 : Int32)) < p4
      · refine own_icmpN X0 own_d2_9 (tlt hc3).2.1 (pc' := 12) rfl ?_
        refine own_aloadN X0 own_d2_12 (pc' := 13) rfl (v := (.ref a1)) rfl rfl ?_
        refine own_iload X0 own_d2_13 (pc' := 15) rfl (v := (p3 + (1 : Int32))) rfl ?_
        refine own_baload X0 V_a1 ((own_ib hf ht hc1 (by decide) (by decide)).2 hc3).1 ((own_ib hf ht hc1 (by decide) (by decide)).2 hc3).2 (y := (List.getD xs_a1 ((p3 + (1 : Int32)).toNatClampNeg) 0)) rfl own_d2_15 (pc' := 16) rfl ?_
        refine own_iloadN X0 own_d2_16 (pc' := 17) rfl (v := p2) rfl ?_
        by_cases hc4 : (List.getD xs_a1 ((p3 + (1 : Int32)).toNatClampNeg) 0) = p2
        · refine own_icmpN X0 own_d2_17 (teq hc4).2 (pc' := 20) rfl ?_
          refine own_iload X0 own_d2_20 (pc' := 22) rfl (v := (p3 + (1 : Int32))) rfl ?_
          refine own_istore X0 own_d2_22 (pc' := 24) rfl (y := (p3 + (1 : Int32))) rfl (Ls' := #[.val (.ref a1), .val (.int p2), .val (.int p3), .val (.int p4), .val (.int (p3 + (1 : Int32))), .val (.int (p3 + (1 : Int32)))]) rfl ?_
          refine own_goto X0 own_d2_24 (by decide) (pc' := 33) rfl ?_
          refine own_iload X0 own_d2_33 (pc' := 35) rfl (v := (p3 + (1 : Int32))) rfl ?_
          refine own_iret X0 (t := .int) (w := (p3 + (1 : Int32))) hret (by simp) own_d2_35 rfl (by decide) (by decide) ?_
          exact ⟨congrArg (fun t => some (Value.int t)) (show (p3 + (1 : Int32)) = own_F2 xs_a1 p2 p3 p4 from (by rw [own_F2, if_pos hc1, if_neg hc2, if_pos hc3, if_pos hc4])), rfl⟩
        · refine own_icmpY X0 own_d2_17 (feq hc4).2 (by decide) (pc' := 27) rfl ?_
          refine own_iinc X0 own_d2_27 (pc' := 30) rfl (x := (p3 + (1 : Int32))) rfl (z := (p3 + (2 : Int32))) (own_addc _ _ _ _ (by decide)) (Ls' := #[.val (.ref a1), .val (.int p2), .val (.int p3), .val (.int p4), .val (.int (-1 : Int32)), .val (.int (p3 + (2 : Int32)))]) rfl ?_
          refine own_goto X0 own_d2_30 (by decide) (pc' := 6) rfl ?_
          refine own_iload X0 own_d2_6 (pc' := 8) rfl (v := (p3 + (2 : Int32))) rfl ?_
          refine own_iloadN X0 own_d2_8 (pc' := 9) rfl (v := p4) rfl ?_
          by_cases hc5 : (p3 + (2 : Int32)) < p4
          · refine own_icmpN X0 own_d2_9 (tlt hc5).2.1 (pc' := 12) rfl ?_
            refine own_aloadN X0 own_d2_12 (pc' := 13) rfl (v := (.ref a1)) rfl rfl ?_
            refine own_iload X0 own_d2_13 (pc' := 15) rfl (v := (p3 + (2 : Int32))) rfl ?_
            refine own_baload X0 V_a1 ((own_ib hf ht hc1 (by decide) (by decide)).2 hc5).1 ((own_ib hf ht hc1 (by decide) (by decide)).2 hc5).2 (y := (List.getD xs_a1 ((p3 + (2 : Int32)).toNatClampNeg) 0)) rfl own_d2_15 (pc' := 16) rfl ?_
            refine own_iloadN X0 own_d2_16 (pc' := 17) rfl (v := p2) rfl ?_
            by_cases hc6 : (List.getD xs_a1 ((p3 + (2 : Int32)).toNatClampNeg) 0) = p2
            · refine own_icmpN X0 own_d2_17 (teq hc6).2 (pc' := 20) rfl ?_
              refine own_iload X0 own_d2_20 (pc' := 22) rfl (v := (p3 + (2 : Int32))) rfl ?_
              refine own_istore X0 own_d2_22 (pc' := 24) rfl (y := (p3 + (2 : Int32))) rfl (Ls' := #[.val (.ref a1), .val (.int p2), .val (.int p3), .val (.int p4), .val (.int (p3 + (2 : Int32))), .val (.int (p3 + (2 : Int32)))]) rfl ?_
              refine own_goto X0 own_d2_24 (by decide) (pc' := 33) rfl ?_
              refine own_iload X0 own_d2_33 (pc' := 35) rfl (v := (p3 + (2 : Int32))) rfl ?_
              refine own_iret X0 (t := .int) (w := (p3 + (2 : Int32))) hret (by simp) own_d2_35 rfl (by decide) (by decide) ?_
              exact ⟨congrArg (fun t => some (Value.int t)) (show (p3 + (2 : Int32)) = own_F2 xs_a1 p2 p3 p4 from (by rw [own_F2, if_pos hc1, if_neg hc2, if_pos hc3, if_neg hc4, if_pos hc5, if_pos hc6])), rfl⟩
            · refine own_icmpY X0 own_d2_17 (feq hc6).2 (by decide) (pc' := 27) rfl ?_
              refine own_iinc X0 own_d2_27 (pc' := 30) rfl (x := (p3 + (2 : Int32))) rfl (z := (p3 + (3 : Int32))) (own_addc _ _ _ _ (by decide)) (Ls' := #[.val (.ref a1), .val (.int p2), .val (.int p3), .val (.int p4), .val (.int (-1 : Int32)), .val (.int (p3 + (3 : Int32)))]) rfl ?_
              refine own_goto X0 own_d2_30 (by decide) (pc' := 6) rfl ?_
              refine own_iload X0 own_d2_6 (pc' := 8) rfl (v := (p3 + (3 : Int32))) rfl ?_
              refine own_iloadN X0 own_d2_8 (pc' := 9) rfl (v := p4) rfl ?_
              by_cases hc7 : (p3 + (3 : Int32)) < p4
              · refine own_icmpN X0 own_d2_9 (tlt hc7).2.1 (pc' := 12) rfl ?_
                refine own_aloadN X0 own_d2_12 (pc' := 13) rfl (v := (.ref a1)) rfl rfl ?_
                refine own_iload X0 own_d2_13 (pc' := 15) rfl (v := (p3 + (3 : Int32))) rfl ?_
                refine own_baload X0 V_a1 ((own_ib hf ht hc1 (by decide) (by decide)).2 hc7).1 ((own_ib hf ht hc1 (by decide) (by decide)).2 hc7).2 (y := (List.getD xs_a1 ((p3 + (3 : Int32)).toNatClampNeg) 0)) rfl own_d2_15 (pc' := 16) rfl ?_
                refine own_iloadN X0 own_d2_16 (pc' := 17) rfl (v := p2) rfl ?_
                by_cases hc8 : (List.getD xs_a1 ((p3 + (3 : Int32)).toNatClampNeg) 0) = p2
                · refine own_icmpN X0 own_d2_17 (teq hc8).2 (pc' := 20) rfl ?_
                  refine own_iload X0 own_d2_20 (pc' := 22) rfl (v := (p3 + (3 : Int32))) rfl ?_
                  refine own_istore X0 own_d2_22 (pc' := 24) rfl (y := (p3 + (3 : Int32))) rfl (Ls' := #[.val (.ref a1), .val (.int p2), .val (.int p3), .val (.int p4), .val (.int (p3 + (3 : Int32))), .val (.int (p3 + (3 : Int32)))]) rfl ?_
                  refine own_goto X0 own_d2_24 (by decide) (pc' := 33) rfl ?_
                  refine own_iload X0 own_d2_33 (pc' := 35) rfl (v := (p3 + (3 : Int32))) rfl ?_
                  refine own_iret X0 (t := .int) (w := (p3 + (3 : Int32))) hret (by simp) own_d2_35 rfl (by decide) (by decide) ?_
                  exact ⟨congrArg (fun t => some (Value.int t)) (show (p3 + (3 : Int32)) = own_F2 xs_a1 p2 p3 p4 from (by rw [own_F2, if_pos hc1, if_neg hc2, if_pos hc3, if_neg hc4, if_pos hc5, if_neg hc6, if_pos hc7, if_pos hc8])), rfl⟩
                · refine own_icmpY X0 own_d2_17 (feq hc8).2 (by decide) (pc' := 27) rfl ?_
                  refine own_iinc X0 own_d2_27 (pc' := 30) rfl (x := (p3 + (3 : Int32))) rfl (z := (p3 + (4 : Int32))) (own_addc _ _ _ _ (by decide)) (Ls' := #[.val (.ref a1), .val (.int p2), .val (.int p3), .val (.int p4), .val (.int (-1 : Int32)), .val (.int (p3 + (4 : Int32)))]) rfl ?_
                  refine own_goto X0 own_d2_30 (by decide) (pc' := 6) rfl ?_
                  refine own_iload X0 own_d2_6 (pc' := 8) rfl (v := (p3 + (4 : Int32))) rfl ?_
                  refine own_iloadN X0 own_d2_8 (pc' := 9) rfl (v := p4) rfl ?_
                  have hk9 : ¬ ((p3 + (4 : Int32)) < p4) := own_stop hf ht hc1
                  refine own_icmpY X0 own_d2_9 (flt hk9).2.1 (by decide) (pc' := 33) rfl ?_
                  refine own_iload X0 own_d2_33 (pc' := 35) rfl (v := (-1 : Int32)) rfl ?_
                  refine own_iret X0 (t := .int) (w := (-1 : Int32)) hret (by simp) own_d2_35 rfl (by decide) (by decide) ?_
                  exact ⟨congrArg (fun t => some (Value.int t)) (show (-1 : Int32) = own_F2 xs_a1 p2 p3 p4 from (by rw [own_F2, if_pos hc1, if_neg hc2, if_pos hc3, if_neg hc4, if_pos hc5, if_neg hc6, if_pos hc7, if_neg hc8])), rfl⟩
              · refine own_icmpY X0 own_d2_9 (flt hc7).2.1 (by decide) (pc' := 33) rfl ?_
                refine own_iload X0 own_d2_33 (pc' := 35) rfl (v := (-1 : Int32)) rfl ?_
                refine own_iret X0 (t := .int) (w := (-1 : Int32)) hret (by simp) own_d2_35 rfl (by decide) (by decide) ?_
                exact ⟨congrArg (fun t => some (Value.int t)) (show (-1 : Int32) = own_F2 xs_a1 p2 p3 p4 from (by rw [own_F2, if_pos hc1, if_neg hc2, if_pos hc3, if_neg hc4, if_pos hc5, if_neg hc6, if_neg hc7])), rfl⟩
          · refine own_icmpY X0 own_d2_9 (flt hc5).2.1 (by decide) (pc' := 33) rfl ?_
            refine own_iload X0 own_d2_33 (pc' := 35) rfl (v := (-1 : Int32)) rfl ?_
            refine own_iret X0 (t := .int) (w := (-1 : Int32)) hret (by simp) own_d2_35 rfl (by decide) (by decide) ?_
            exact ⟨congrArg (fun t => some (Value.int t)) (show (-1 : Int32) = own_F2 xs_a1 p2 p3 p4 from (by rw [own_F2, if_pos hc1, if_neg hc2, if_pos hc3, if_neg hc4, if_neg hc5])), rfl⟩
      · refine own_icmpY X0 own_d2_9 (flt hc3).2.1 (by decide) (pc' := 33) rfl ?_
        refine own_iload X0 own_d2_33 (pc' := 35) rfl (v := (-1 : Int32)) rfl ?_
        refine own_iret X0 (t := .int) (w := (-1 : Int32)) hret (by simp) own_d2_35 rfl (by decide) (by decide) ?_
        exact ⟨congrArg (fun t => some (Value.int t)) (show (-1 : Int32) = own_F2 xs_a1 p2 p3 p4 from (by rw [own_F2, if_pos hc1, if_neg hc2, if_neg hc3])), rfl⟩
  · refine own_icmpY X0 own_d2_9 (flt hc1).2.1 (by decide) (pc' := 33) rfl ?_
    refine own_iload X0 own_d2_33 (pc' := 35) rfl (v := (-1 : Int32)) rfl ?_
    refine own_iret X0 (t := .int) (w := (-1 : Int32)) hret (by simp) own_d2_35 rfl (by decide) (by decide) ?_
    exact ⟨congrArg (fun t => some (Value.int t)) (show (-1 : Int32) = own_F2 xs_a1 p2 p3 p4 from (by rw [own_F2, if_neg hc1])), rfl⟩
theorem own_d3_0 : decode method_4_code 0 = .ok (.iload_n 2, 1) := by decide +kernel
theorem own_d3_1 : decode method_4_code 1 = .ok (.iload 4, 2) := by decide +kernel
theorem own_d3_3 : decode method_4_code 3 = .ok (.if_icmp .gt 21, 3) := by decide +kernel
theorem own_d3_6 : decode method_4_code 6 = .ok (.iload 4, 2) := by decide +kernel
theorem own_d3_8 : decode method_4_code 8 = .ok (.iload_n 3, 1) := by decide +kernel
theorem own_d3_9 : decode method_4_code 9 = .ok (.if_icmp .ge 15, 3) := by decide +kernel
theorem own_d3_12 : decode method_4_code 12 = .ok (.aload_n 0, 1) := by decide +kernel
theorem own_d3_13 : decode method_4_code 13 = .ok (.iload 4, 2) := by decide +kernel
theorem own_d3_15 : decode method_4_code 15 = .ok (.baload, 1) := by decide +kernel
theorem own_d3_16 : decode method_4_code 16 = .ok (.iload_n 1, 1) := by decide +kernel
theorem own_d3_17 : decode method_4_code 17 = .ok (.if_icmp .ne 7, 3) := by decide +kernel
theorem own_d3_20 : decode method_4_code 20 = .ok (.iconst 1, 1) := by decide +kernel
theorem own_d3_21 : decode method_4_code 21 = .ok (.goto 4, 3) := by decide +kernel
theorem own_d3_24 : decode method_4_code 24 = .ok (.iconst 0, 1) := by decide +kernel
theorem own_d3_25 : decode method_4_code 25 = .ok (.ireturn, 1) := by decide +kernel
theorem own_ef3 (a1 : Addr) (p2 : Int32) (p3 : Int32) (p4 : Int32) (p5 : Int32) (m : MethodId) : entryFrame m #[(.ref a1), (.int p2), (.int p3), (.int p4), (.int p5)] 5 = mkF m 0 #[.val (.ref a1), .val (.int p2), .val (.int p3), .val (.int p4), .val (.int p5)] [] := by first | (simp [entryFrame, mkF, argsToLocals, Value.category]; done) | rfl
theorem own_pf3 : plainFor (⟨"com/example/orderflot/orderflot/fix/FixMessageIndexOfPinLaw", "hit", "([BBIII)Z"⟩ : MethodName) = true := by first | exact plainFor_of_name (by first | (simp [plainName, overriddenIn]; done) | decide +kernel) | decide +kernel
def own_F3 (xs_a1 : List Int32) (p2 : Int32) (p3 : Int32) (p4 : Int32) (p5 : Int32) : Int32 := (if p5 < p3 then (0 : Int32) else (if p5 < p4 then (if (List.getD xs_a1 (p5.toNatClampNeg) 0) = p2 then (1 : Int32) else (0 : Int32)) else (0 : Int32)))
set_option maxRecDepth 65536 in
set_option maxHeartbeats 40000000 in
theorem own_rm3 (l : Launch) (Z : State) (a0 : Array Value) (hw : ∀ d ∈ tables_1, d.before a0 Z = true) (a1 : Addr) (xs_a1 : List Int32) (p2 : Int32) (p3 : Int32) (p4 : Int32) (p5 : Int32) (h0 : Heap) (n0 : Nat) (Z0 : n0 ≤ h0.size) (V_a1 : own_V Z h0 a1 .byte (4 : Int32) xs_a1) (hi : ¬ p5 < (0 : Int32)) (hj : p5 < (4 : Int32)) :
    own_Con l Z (⟨"com/example/orderflot/orderflot/fix/FixMessageIndexOfPinLaw", "hit", "([BBIII)Z"⟩ : MethodName) method_4_code 5 (some .boolean) ({ frames := 0, cells := 0, slots := 0, locals := 0 } : Room) #[(.ref a1), (.int p2), (.int p3), (.int p4), (.int p5)] h0 n0 (fun v h => v = some (.int (own_F3 xs_a1 p2 p3 p4 p5)) ∧ h = h0) := by
  refine own_enter own_pf3 Z0 (own_ef3 a1 p2 p3 p4 p5) ?_
  intro p e s m below meth c T0 X0 hret hnm
  refine own_iloadN X0 own_d3_0 (pc' := 1) rfl (v := p3) rfl ?_
  refine own_iload X0 own_d3_1 (pc' := 3) rfl (v := p5) rfl ?_
  by_cases hc1 : p5 < p3
  · refine own_icmpY X0 own_d3_3 (tlt hc1).2.2.1 (by decide) (pc' := 24) rfl ?_
    refine own_iconst X0 own_d3_24 (pc' := 25) rfl (z := (0 : Int32)) rfl ?_
    refine own_iret X0 (t := .boolean) (w := (0 : Int32)) hret (by simp) own_d3_25 rfl (by decide) (by decide) ?_
    exact ⟨congrArg (fun t => some (Value.int t)) (show (0 : Int32) = own_F3 xs_a1 p2 p3 p4 p5 from (by rw [own_F3, if_pos hc1])), rfl⟩
  · refine own_icmpN X0 own_d3_3 (flt hc1).2.2.1 (pc' := 6) rfl ?_
    refine own_iload X0 own_d3_6 (pc' := 8) rfl (v := p5) rfl ?_
    refine own_iloadN X0 own_d3_8 (pc' := 9) rfl (v := p4) rfl ?_
    by_cases hc2 : p5 < p4
    · refine own_icmpN X0 own_d3_9 (tlt hc2).2.1 (pc' := 12) rfl ?_
      refine own_aloadN X0 own_d3_12 (pc' := 13) rfl (v := (.ref a1)) rfl rfl ?_
      refine own_iload X0 own_d3_13 (pc' := 15) rfl (v := p5) rfl ?_
      refine own_baload X0 V_a1 hi hj (y := (List.getD xs_a1 (p5.toNatClampNeg) 0)) rfl own_d3_15 (pc' := 16) rfl ?_
      refine own_iloadN X0 own_d3_16 (pc' := 17) rfl (v := p2) rfl ?_
      by_cases hc3 : (List.getD xs_a1 (p5.toNatClampNeg) 0) = p2
      · refine own_icmpN X0 own_d3_17 (teq hc3).2 (pc' := 20) rfl ?_
        refine own_iconst X0 own_d3_20 (pc' := 21) rfl (z := (1 : Int32)) rfl ?_
        refine own_goto X0 own_d3_21 (by decide) (pc' := 25) rfl ?_
        refine own_iret X0 (t := .boolean) (w := (1 : Int32)) hret (by simp) own_d3_25 rfl (by decide) (by decide) ?_
        exact ⟨congrArg (fun t => some (Value.int t)) (show (1 : Int32) = own_F3 xs_a1 p2 p3 p4 p5 from (by rw [own_F3, if_neg hc1, if_pos hc2, if_pos hc3])), rfl⟩
      · refine own_icmpY X0 own_d3_17 (feq hc3).2 (by decide) (pc' := 24) rfl ?_
        refine own_iconst X0 own_d3_24 (pc' := 25) rfl (z := (0 : Int32)) rfl ?_
        refine own_iret X0 (t := .boolean) (w := (0 : Int32)) hret (by simp) own_d3_25 rfl (by decide) (by decide) ?_
        exact ⟨congrArg (fun t => some (Value.int t)) (show (0 : Int32) = own_F3 xs_a1 p2 p3 p4 p5 from (by rw [own_F3, if_neg hc1, if_pos hc2, if_neg hc3])), rfl⟩
    · refine own_icmpY X0 own_d3_9 (flt hc2).2.1 (by decide) (pc' := 24) rfl ?_
      refine own_iconst X0 own_d3_24 (pc' := 25) rfl (z := (0 : Int32)) rfl ?_
      refine own_iret X0 (t := .boolean) (w := (0 : Int32)) hret (by simp) own_d3_25 rfl (by decide) (by decide) ?_
      exact ⟨congrArg (fun t => some (Value.int t)) (show (0 : Int32) = own_F3 xs_a1 p2 p3 p4 p5 from (by rw [own_F3, if_neg hc1, if_neg hc2])), rfl⟩
theorem own_pd0 : parseMethodDescriptor "(IIIB)B" = some ⟨[.int, .int, .int, .byte], some .byte⟩ := by decide +kernel
theorem own_pd1 : parseMethodDescriptor "([BBII)I" = some ⟨[(.array .byte), .byte, .int, .int], some .int⟩ := by decide +kernel
theorem own_pd2 : parseMethodDescriptor "([BBIII)Z" = some ⟨[(.array .byte), .byte, .int, .int, .int], some .boolean⟩ := by decide +kernel
theorem own_ef0 (p1 : Int32) (p2 : Int32) (p3 : Int32) (p4 : Int32) (p5 : Int32) (m : MethodId) : entryFrame m #[(.int p1), (.int p2), (.int p3), (.int p4), (.int p5)] maxLocals = mkF m 0 #[.val (.int p1), .val (.int p2), .val (.int p3), .val (.int p4), .val (.int p5), .unset, .unset, .unset, .unset, .unset, .unset] [] := by first | (simp [entryFrame, mkF, argsToLocals, Value.category, maxLocals]; done) | rfl
theorem own_pf0 : plainFor x = true := by first | exact plainFor_of_name (by first | (simp [plainName, overriddenIn]; done) | decide +kernel) | decide +kernel
def own_v0_20 (p1 : Int32) (p2 : Int32) (p3 : Int32) : Int32 := ((own_F1 p3 (0 : Int32) p1 (p2.toInt8.toInt32)).toInt8.toInt32)
def own_v0_32 (p1 : Int32) (p2 : Int32) (p3 : Int32) : Int32 := ((own_F1 p3 (1 : Int32) p1 (p2.toInt8.toInt32)).toInt8.toInt32)
def own_v0_44 (p1 : Int32) (p2 : Int32) (p3 : Int32) : Int32 := ((own_F1 p3 (2 : Int32) p1 (p2.toInt8.toInt32)).toInt8.toInt32)
def own_v0_56 (p1 : Int32) (p2 : Int32) (p3 : Int32) : Int32 := ((own_F1 p3 (3 : Int32) p1 (p2.toInt8.toInt32)).toInt8.toInt32)
def own_v0_63 (p4 : Int32) : Int32 := ((p4 &&& (2147483647 : Int32)) % (5 : Int32))
def own_v0_72 (p5 : Int32) : Int32 := ((p5 &&& (2147483647 : Int32)) % (5 : Int32))
def own_v0_82 (p1 : Int32) (p2 : Int32) (p3 : Int32) (p4 : Int32) (p5 : Int32) : Int32 := (own_F2 [(own_v0_20 p1 p2 p3), (own_v0_32 p1 p2 p3), (own_v0_44 p1 p2 p3), (own_v0_56 p1 p2 p3)] (p2.toInt8.toInt32) (own_v0_63 p4) (own_v0_72 p5))
def own_v0_99 (p1 : Int32) (p2 : Int32) (p3 : Int32) (p4 : Int32) (p5 : Int32) : Int32 := (own_F3 [(own_v0_20 p1 p2 p3), (own_v0_32 p1 p2 p3), (own_v0_44 p1 p2 p3), (own_v0_56 p1 p2 p3)] (p2.toInt8.toInt32) (own_v0_63 p4) (own_v0_72 p5) (0 : Int32))
def own_v0_120 (p1 : Int32) (p2 : Int32) (p3 : Int32) (p4 : Int32) (p5 : Int32) : Int32 := (own_F3 [(own_v0_20 p1 p2 p3), (own_v0_32 p1 p2 p3), (own_v0_44 p1 p2 p3), (own_v0_56 p1 p2 p3)] (p2.toInt8.toInt32) (own_v0_63 p4) (own_v0_72 p5) (1 : Int32))
def own_v0_141 (p1 : Int32) (p2 : Int32) (p3 : Int32) (p4 : Int32) (p5 : Int32) : Int32 := (own_F3 [(own_v0_20 p1 p2 p3), (own_v0_32 p1 p2 p3), (own_v0_44 p1 p2 p3), (own_v0_56 p1 p2 p3)] (p2.toInt8.toInt32) (own_v0_63 p4) (own_v0_72 p5) (2 : Int32))
def own_v0_162 (p1 : Int32) (p2 : Int32) (p3 : Int32) (p4 : Int32) (p5 : Int32) : Int32 := (own_F3 [(own_v0_20 p1 p2 p3), (own_v0_32 p1 p2 p3), (own_v0_44 p1 p2 p3), (own_v0_56 p1 p2 p3)] (p2.toInt8.toInt32) (own_v0_63 p4) (own_v0_72 p5) (3 : Int32))
def own_j0_171 (p1 : Int32) (p2 : Int32) (p3 : Int32) (p4 : Int32) (p5 : Int32) : Int32 := (if (own_v0_99 p1 p2 p3 p4 p5) = (0 : Int32) then (if (own_v0_120 p1 p2 p3 p4 p5) = (0 : Int32) then (if (own_v0_141 p1 p2 p3 p4 p5) = (0 : Int32) then (if (own_v0_162 p1 p2 p3 p4 p5) = (0 : Int32) then (-1 : Int32) else (3 : Int32)) else (2 : Int32)) else (1 : Int32)) else (0 : Int32))
def own_F0 (p1 : Int32) (p2 : Int32) (p3 : Int32) (p4 : Int32) (p5 : Int32) : Int32 := (if (own_v0_82 p1 p2 p3 p4 p5) = (own_j0_171 p1 p2 p3 p4 p5) then (1 : Int32) else (0 : Int32))
-- LEMMAS
theorem own_m5 (p : Int32) : 0 ≤ ((p &&& 2147483647) % 5).toInt ∧ ((p &&& 2147483647) % 5).toInt ≤ 4 := by
  have a1 : (p &&& 2147483647).toInt = p.toInt % 2147483648 := own_mk (k := 31) (by decide) (by decide)
  have a2 : ((p &&& 2147483647) % 5).toInt = p.toInt % 2147483648 % 5 := own_RI a1 (show (5 : Int32).toInt = 5 from rfl) (by omega)
  omega
theorem own_f0 (p4 : Int32) : ¬ own_v0_63 p4 < (0 : Int32) := by
  have e0 : (0 : Int32).toInt = 0 := rfl
  rw [own_lt, own_v0_63]; have := own_m5 p4; omega
theorem own_t4 (p5 : Int32) : ¬ (4 : Int32) < own_v0_72 p5 := by
  have e0 : (4 : Int32).toInt = 4 := rfl
  rw [own_lt, own_v0_72]; have := own_m5 p5; omega
-- END LEMMAS
set_option maxRecDepth 65536 in
set_option maxHeartbeats 40000000 in
theorem own_rm0 (l : Launch) (Z : State) (a0 : Array Value) (hw : ∀ d ∈ tables_1, d.before a0 Z = true) (p1 : Int32) (p2 : Int32) (p3 : Int32) (p4 : Int32) (p5 : Int32) (h0 : Heap) (n0 : Nat) (Z0 : n0 ≤ h0.size) :
    own_Con l Z x code maxLocals ret room_1 #[(.int p1), (.int p2), (.int p3), (.int p4), (.int p5)] h0 n0 (fun v h => v = some (.int (own_F0 p1 p2 p3 p4 p5))) := by
  refine own_enter own_pf0 Z0 (own_ef0 p1 p2 p3 p4 p5) ?_
  intro p e s m below meth c T0 X0 hret hnm
  refine own_iloadN X0 at_0 (pc' := 1) rfl (v := p2) rfl ?_
  refine own_i2b X0 at_1 (pc' := 2) rfl (z := (p2.toInt8.toInt32)) rfl ?_
  refine own_istore X0 at_2 (pc' := 4) rfl (y := (p2.toInt8.toInt32)) rfl (Ls' := #[.val (.int p1), .val (.int p2), .val (.int p3), .val (.int p4), .val (.int p5), .val (.int (p2.toInt8.toInt32)), .unset, .unset, .unset, .unset, .unset]) rfl ?_
  refine own_iconst X0 at_4 (pc' := 5) rfl (z := (4 : Int32)) rfl ?_
  refine own_newV X0 rfl rfl (hw _ (List.mem_of_getElem? (i := 0) rfl)) (by decide) 4 (by decide) (by decide) (by decide) (by decide) at_5 (pc' := 7) rfl fun T2 h3 b1 X4 Ex5 hs6 g7 V8 => ?_
  replace V8 : own_V Z h3 b1 .byte (4 : Int32) [(0 : Int32), (0 : Int32), (0 : Int32), (0 : Int32)] := V8
  refine own_astore X4 at_7 (pc' := 9) rfl rfl (Ls' := #[.val (.int p1), .val (.int p2), .val (.int p3), .val (.int p4), .val (.int p5), .val (.int (p2.toInt8.toInt32)), .val (.ref b1), .unset, .unset, .unset, .unset]) rfl ?_
  refine own_aload X4 at_9 (pc' := 11) rfl (v := (.ref b1)) rfl rfl ?_
  refine own_iconst X4 at_11 (pc' := 12) rfl (z := (0 : Int32)) rfl ?_
  refine own_iloadN X4 at_12 (pc' := 13) rfl (v := p3) rfl ?_
  refine own_iconst X4 at_13 (pc' := 14) rfl (z := (0 : Int32)) rfl ?_
  refine own_iloadN X4 at_14 (pc' := 15) rfl (v := p1) rfl ?_
  refine own_iload X4 at_15 (pc' := 17) rfl (v := (p2.toInt8.toInt32)) rfl ?_
  refine own_callS X4 (argsL := [(.int p3), (.int (0 : Int32)), (.int p1), (.int (p2.toInt8.toInt32))]) (S := [(.int (0 : Int32)), (.ref b1)]) (own_rm1 l Z a0 hw p3 (0 : Int32) p1 (p2.toInt8.toInt32) h3 n0 X4.2.2.2.2.2.2.2.2.1 ) (hw _ (List.mem_of_getElem? (i := 1) rfl)) (hw _ (List.mem_of_getElem? (i := 2) rfl)) (hw _ (List.mem_of_getElem? (i := 3) rfl)) (hw _ (List.mem_of_getElem? (i := 4) rfl)) (by decide) (by decide) 2 (by decide) rfl own_pd0 rfl rfl (Nat.le_of_eq rfl) (by decide) (by decide) at_17 (pc' := 20) rfl fun T9 h10 lc11 r12 X13 Q14 => ?_
  obtain ⟨rfl, e15⟩ := Q14
  replace e15 := e15.symm
  subst e15
  show own_E p e below _ (T9.setTop (mkF m 20 #[.val (.int p1), .val (.int p2), .val (.int p3), .val (.int p4), .val (.int p5), .val (.int (p2.toInt8.toInt32)), .val (.ref b1), .unset, .unset, .unset, .unset] [(.int (own_F1 p3 (0 : Int32) p1 (p2.toInt8.toInt32))), (.int (0 : Int32)), (.ref b1)]))
  refine own_bastore X13 V8 g7 (y := (own_v0_20 p1 p2 p3)) rfl 0 rfl (by decide) (by decide) at_20 (pc' := 21) rfl fun T16 h17 lc19 X18 W20 V21 => ?_
  replace V21 : own_V Z h17 b1 .byte (4 : Int32) [(own_v0_20 p1 p2 p3), (0 : Int32), (0 : Int32), (0 : Int32)] := V21
  refine own_aload X18 at_21 (pc' := 23) rfl (v := (.ref b1)) rfl rfl ?_
  refine own_iconst X18 at_23 (pc' := 24) rfl (z := (1 : Int32)) rfl ?_
  refine own_iloadN X18 at_24 (pc' := 25) rfl (v := p3) rfl ?_
  refine own_iconst X18 at_25 (pc' := 26) rfl (z := (1 : Int32)) rfl ?_
  refine own_iloadN X18 at_26 (pc' := 27) rfl (v := p1) rfl ?_
  refine own_iload X18 at_27 (pc' := 29) rfl (v := (p2.toInt8.toInt32)) rfl ?_
  refine own_callS X18 (argsL := [(.int p3), (.int (1 : Int32)), (.int p1), (.int (p2.toInt8.toInt32))]) (S := [(.int (1 : Int32)), (.ref b1)]) (own_rm1 l Z a0 hw p3 (1 : Int32) p1 (p2.toInt8.toInt32) h17 n0 X18.2.2.2.2.2.2.2.2.1 ) (hw _ (List.mem_of_getElem? (i := 1) rfl)) (hw _ (List.mem_of_getElem? (i := 2) rfl)) (hw _ (List.mem_of_getElem? (i := 3) rfl)) (hw _ (List.mem_of_getElem? (i := 4) rfl)) (by decide) (by decide) 2 (by decide) rfl own_pd0 rfl rfl (Nat.le_of_eq rfl) (by decide) (by decide) at_29 (pc' := 32) rfl fun T22 h23 lc24 r25 X26 Q27 => ?_
  obtain ⟨rfl, e28⟩ := Q27
  replace e28 := e28.symm
  subst e28
  show own_E p e below _ (T22.setTop (mkF m 32 #[.val (.int p1), .val (.int p2), .val (.int p3), .val (.int p4), .val (.int p5), .val (.int (p2.toInt8.toInt32)), .val (.ref b1), .unset, .unset, .unset, .unset] [(.int (own_F1 p3 (1 : Int32) p1 (p2.toInt8.toInt32))), (.int (1 : Int32)), (.ref b1)]))
  refine own_bastore X26 V21 g7 (y := (own_v0_32 p1 p2 p3)) rfl 1 rfl (by decide) (by decide) at_32 (pc' := 33) rfl fun T29 h30 lc32 X31 W33 V34 => ?_
  replace V34 : own_V Z h30 b1 .byte (4 : Int32) [(own_v0_20 p1 p2 p3), (own_v0_32 p1 p2 p3), (0 : Int32), (0 : Int32)] := V34
  refine own_aload X31 at_33 (pc' := 35) rfl (v := (.ref b1)) rfl rfl ?_
  refine own_iconst X31 at_35 (pc' := 36) rfl (z := (2 : Int32)) rfl ?_
  refine own_iloadN X31 at_36 (pc' := 37) rfl (v := p3) rfl ?_
  refine own_iconst X31 at_37 (pc' := 38) rfl (z := (2 : Int32)) rfl ?_
  refine own_iloadN X31 at_38 (pc' := 39) rfl (v := p1) rfl ?_
  refine own_iload X31 at_39 (pc' := 41) rfl (v := (p2.toInt8.toInt32)) rfl ?_
  refine own_callS X31 (argsL := [(.int p3), (.int (2 : Int32)), (.int p1), (.int (p2.toInt8.toInt32))]) (S := [(.int (2 : Int32)), (.ref b1)]) (own_rm1 l Z a0 hw p3 (2 : Int32) p1 (p2.toInt8.toInt32) h30 n0 X31.2.2.2.2.2.2.2.2.1 ) (hw _ (List.mem_of_getElem? (i := 1) rfl)) (hw _ (List.mem_of_getElem? (i := 2) rfl)) (hw _ (List.mem_of_getElem? (i := 3) rfl)) (hw _ (List.mem_of_getElem? (i := 4) rfl)) (by decide) (by decide) 2 (by decide) rfl own_pd0 rfl rfl (Nat.le_of_eq rfl) (by decide) (by decide) at_41 (pc' := 44) rfl fun T35 h36 lc37 r38 X39 Q40 => ?_
  obtain ⟨rfl, e41⟩ := Q40
  replace e41 := e41.symm
  subst e41
  show own_E p e below _ (T35.setTop (mkF m 44 #[.val (.int p1), .val (.int p2), .val (.int p3), .val (.int p4), .val (.int p5), .val (.int (p2.toInt8.toInt32)), .val (.ref b1), .unset, .unset, .unset, .unset] [(.int (own_F1 p3 (2 : Int32) p1 (p2.toInt8.toInt32))), (.int (2 : Int32)), (.ref b1)]))
  refine own_bastore X39 V34 g7 (y := (own_v0_44 p1 p2 p3)) rfl 2 rfl (by decide) (by decide) at_44 (pc' := 45) rfl fun T42 h43 lc45 X44 W46 V47 => ?_
  replace V47 : own_V Z h43 b1 .byte (4 : Int32) [(own_v0_20 p1 p2 p3), (own_v0_32 p1 p2 p3), (own_v0_44 p1 p2 p3), (0 : Int32)] := V47
  refine own_aload X44 at_45 (pc' := 47) rfl (v := (.ref b1)) rfl rfl ?_
  refine own_iconst X44 at_47 (pc' := 48) rfl (z := (3 : Int32)) rfl ?_
  refine own_iloadN X44 at_48 (pc' := 49) rfl (v := p3) rfl ?_
  refine own_iconst X44 at_49 (pc' := 50) rfl (z := (3 : Int32)) rfl ?_
  refine own_iloadN X44 at_50 (pc' := 51) rfl (v := p1) rfl ?_
  refine own_iload X44 at_51 (pc' := 53) rfl (v := (p2.toInt8.toInt32)) rfl ?_
  refine own_callS X44 (argsL := [(.int p3), (.int (3 : Int32)), (.int p1), (.int (p2.toInt8.toInt32))]) (S := [(.int (3 : Int32)), (.ref b1)]) (own_rm1 l Z a0 hw p3 (3 : Int32) p1 (p2.toInt8.toInt32) h43 n0 X44.2.2.2.2.2.2.2.2.1 ) (hw _ (List.mem_of_getElem? (i := 1) rfl)) (hw _ (List.mem_of_getElem? (i := 2) rfl)) (hw _ (List.mem_of_getElem? (i := 3) rfl)) (hw _ (List.mem_of_getElem? (i := 4) rfl)) (by decide) (by decide) 2 (by decide) rfl own_pd0 rfl rfl (Nat.le_of_eq rfl) (by decide) (by decide) at_53 (pc' := 56) rfl fun T48 h49 lc50 r51 X52 Q53 => ?_
  obtain ⟨rfl, e54⟩ := Q53
  replace e54 := e54.symm
  subst e54
  show own_E p e below _ (T48.setTop (mkF m 56 #[.val (.int p1), .val (.int p2), .val (.int p3), .val (.int p4), .val (.int p5), .val (.int (p2.toInt8.toInt32)), .val (.ref b1), .unset, .unset, .unset, .unset] [(.int (own_F1 p3 (3 : Int32) p1 (p2.toInt8.toInt32))), (.int (3 : Int32)), (.ref b1)]))
  refine own_bastore X52 V47 g7 (y := (own_v0_56 p1 p2 p3)) rfl 3 rfl (by decide) (by decide) at_56 (pc' := 57) rfl fun T55 h56 lc58 X57 W59 V60 => ?_
  replace V60 : own_V Z h56 b1 .byte (4 : Int32) [(own_v0_20 p1 p2 p3), (own_v0_32 p1 p2 p3), (own_v0_44 p1 p2 p3), (own_v0_56 p1 p2 p3)] := V60
  refine own_iloadN X57 at_57 (pc' := 58) rfl (v := p4) rfl ?_
  refine own_ldc X57 (hw _ (List.mem_of_getElem? (i := 5) rfl)) at_58 (pc' := 60) rfl ?_
  refine own_iand X57 at_60 (pc' := 61) rfl (z := (p4 &&& (2147483647 : Int32))) rfl ?_
  refine own_iconst X57 at_61 (pc' := 62) rfl (z := (5 : Int32)) rfl ?_
  refine own_irem X57 at_62 (pc' := 63) rfl (by decide) (z := ((p4 &&& (2147483647 : Int32)) % (5 : Int32))) rfl ?_
  refine own_istore X57 at_63 (pc' := 65) rfl (y := (own_v0_63 p4)) rfl (Ls' := #[.val (.int p1), .val (.int p2), .val (.int p3), .val (.int p4), .val (.int p5), .val (.int (p2.toInt8.toInt32)), .val (.ref b1), .val (.int (own_v0_63 p4)), .unset, .unset, .unset]) rfl ?_
  refine own_iload X57 at_65 (pc' := 67) rfl (v := p5) rfl ?_
  refine own_ldc X57 (hw _ (List.mem_of_getElem? (i := 5) rfl)) at_67 (pc' := 69) rfl ?_
  refine own_iand X57 at_69 (pc' := 70) rfl (z := (p5 &&& (2147483647 : Int32))) rfl ?_
  refine own_iconst X57 at_70 (pc' := 71) rfl (z := (5 : Int32)) rfl ?_
  refine own_irem X57 at_71 (pc' := 72) rfl (by decide) (z := ((p5 &&& (2147483647 : Int32)) % (5 : Int32))) rfl ?_
  refine own_istore X57 at_72 (pc' := 74) rfl (y := (own_v0_72 p5)) rfl (Ls' := #[.val (.int p1), .val (.int p2), .val (.int p3), .val (.int p4), .val (.int p5), .val (.int (p2.toInt8.toInt32)), .val (.ref b1), .val (.int (own_v0_63 p4)), .val (.int (own_v0_72 p5)), .unset, .unset]) rfl ?_
  refine own_aload X57 at_74 (pc' := 76) rfl (v := (.ref b1)) rfl rfl ?_
  refine own_iload X57 at_76 (pc' := 78) rfl (v := (p2.toInt8.toInt32)) rfl ?_
  refine own_iload X57 at_78 (pc' := 80) rfl (v := (own_v0_63 p4)) rfl ?_
  refine own_iload X57 at_80 (pc' := 82) rfl (v := (own_v0_72 p5)) rfl ?_
  refine own_callS X57 (argsL := [(.ref b1), (.int (p2.toInt8.toInt32)), (.int (own_v0_63 p4)), (.int (own_v0_72 p5))]) (S := []) (own_rm2 l Z a0 hw b1 [(own_v0_20 p1 p2 p3), (own_v0_32 p1 p2 p3), (own_v0_44 p1 p2 p3), (own_v0_56 p1 p2 p3)] (p2.toInt8.toInt32) (own_v0_63 p4) (own_v0_72 p5) h56 n0 X57.2.2.2.2.2.2.2.2.1 V60 (own_f0 p4) (own_t4 p5)) (hw _ (List.mem_of_getElem? (i := 6) rfl)) (hw _ (List.mem_of_getElem? (i := 7) rfl)) (hw _ (List.mem_of_getElem? (i := 8) rfl)) (hw _ (List.mem_of_getElem? (i := 9) rfl)) (by decide) (by decide) 0 (by decide) rfl own_pd1 rfl rfl (Nat.le_of_eq rfl) (by decide) (by decide) at_82 (pc' := 85) rfl fun T61 h62 lc63 r64 X65 Q66 => ?_
  obtain ⟨rfl, e67⟩ := Q66
  replace e67 := e67.symm
  subst e67
  show own_E p e below _ (T61.setTop (mkF m 85 #[.val (.int p1), .val (.int p2), .val (.int p3), .val (.int p4), .val (.int p5), .val (.int (p2.toInt8.toInt32)), .val (.ref b1), .val (.int (own_v0_63 p4)), .val (.int (own_v0_72 p5)), .unset, .unset] [(.int (own_v0_82 p1 p2 p3 p4 p5))]))
  refine own_istore X65 at_85 (pc' := 87) rfl (y := (own_v0_82 p1 p2 p3 p4 p5)) rfl (Ls' := #[.val (.int p1), .val (.int p2), .val (.int p3), .val (.int p4), .val (.int p5), .val (.int (p2.toInt8.toInt32)), .val (.ref b1), .val (.int (own_v0_63 p4)), .val (.int (own_v0_72 p5)), .val (.int (own_v0_82 p1 p2 p3 p4 p5)), .unset]) rfl ?_
  refine own_iconst X65 at_87 (pc' := 88) rfl (z := (-1 : Int32)) rfl ?_
  refine own_istore X65 at_88 (pc' := 90) rfl (y := (-1 : Int32)) rfl (Ls' := #[.val (.int p1), .val (.int p2), .val (.int p3), .val (.int p4), .val (.int p5), .val (.int (p2.toInt8.toInt32)), .val (.ref b1), .val (.int (own_v0_63 p4)), .val (.int (own_v0_72 p5)), .val (.int (own_v0_82 p1 p2 p3 p4 p5)), .val (.int (-1 : Int32))]) rfl ?_
  refine own_aload X65 at_90 (pc' := 92) rfl (v := (.ref b1)) rfl rfl ?_
  refine own_iload X65 at_92 (pc' := 94) rfl (v := (p2.toInt8.toInt32)) rfl ?_
  refine own_iload X65 at_94 (pc' := 96) rfl (v := (own_v0_63 p4)) rfl ?_
  refine own_iload X65 at_96 (pc' := 98) rfl (v := (own_v0_72 p5)) rfl ?_
  refine own_iconst X65 at_98 (pc' := 99) rfl (z := (0 : Int32)) rfl ?_
  refine own_callS X65 (argsL := [(.ref b1), (.int (p2.toInt8.toInt32)), (.int (own_v0_63 p4)), (.int (own_v0_72 p5)), (.int (0 : Int32))]) (S := []) (own_rm3 l Z a0 hw b1 [(own_v0_20 p1 p2 p3), (own_v0_32 p1 p2 p3), (own_v0_44 p1 p2 p3), (own_v0_56 p1 p2 p3)] (p2.toInt8.toInt32) (own_v0_63 p4) (own_v0_72 p5) (0 : Int32) h56 n0 X65.2.2.2.2.2.2.2.2.1 V60 (by decide) (by decide)) (hw _ (List.mem_of_getElem? (i := 10) rfl)) (hw _ (List.mem_of_getElem? (i := 11) rfl)) (hw _ (List.mem_of_getElem? (i := 3) rfl)) (hw _ (List.mem_of_getElem? (i := 12) rfl)) (by decide) (by decide) 0 (by decide) rfl own_pd2 rfl rfl (Nat.le_of_eq rfl) (by decide) (by decide) at_99 (pc' := 102) rfl fun T68 h69 lc70 r71 X72 Q73 => ?_
  obtain ⟨rfl, e74⟩ := Q73
  replace e74 := e74.symm
  subst e74
  show own_E p e below _ (T68.setTop (mkF m 102 #[.val (.int p1), .val (.int p2), .val (.int p3), .val (.int p4), .val (.int p5), .val (.int (p2.toInt8.toInt32)), .val (.ref b1), .val (.int (own_v0_63 p4)), .val (.int (own_v0_72 p5)), .val (.int (own_v0_82 p1 p2 p3 p4 p5)), .val (.int (-1 : Int32))] [(.int (own_v0_99 p1 p2 p3 p4 p5))]))
  have K105 : ∀ T106 lc108, own_A l Z "com/example/orderflot/orderflot/fix/FixMessageIndexOfPinLaw" code maxLocals n0 p e room_1 s m #[(.int p1), (.int p2), (.int p3), (.int p4), (.int p5)] below meth c T106 h56 lc108 1 4 → own_E p e below (own_G room_1 s n0 (fun v h => v = some (.int (own_F0 p1 p2 p3 p4 p5)))) (T106.setTop (mkF m 171 #[.val (.int p1), .val (.int p2), .val (.int p3), .val (.int p4), .val (.int p5), .val (.int (p2.toInt8.toInt32)), .val (.ref b1), .val (.int (own_v0_63 p4)), .val (.int (own_v0_72 p5)), .val (.int (own_v0_82 p1 p2 p3 p4 p5)), .val (.int (own_j0_171 p1 p2 p3 p4 p5))] [])) := by
    intro T106 lc108 X107
    refine own_iload X107 at_171 (pc' := 173) rfl (v := (own_v0_82 p1 p2 p3 p4 p5)) rfl ?_
    refine own_iload X107 at_173 (pc' := 175) rfl (v := (own_j0_171 p1 p2 p3 p4 p5)) rfl ?_
    by_cases hc109 : (own_v0_82 p1 p2 p3 p4 p5) = (own_j0_171 p1 p2 p3 p4 p5)
    · refine own_icmpN X107 at_175 (teq hc109).2 (pc' := 178) rfl ?_
      refine own_iconst X107 at_178 (pc' := 179) rfl (z := (1 : Int32)) rfl ?_
      refine own_goto X107 at_179 (by decide) (pc' := 183) rfl ?_
      refine own_iret X107 (t := .boolean) (w := (1 : Int32)) hret (by simp) at_183 rfl (by decide) (by decide) ?_
      exact congrArg (fun t => some (Value.int t)) (show (1 : Int32) = own_F0 p1 p2 p3 p4 p5 from (by rw [own_F0, if_pos hc109]))
    · refine own_icmpY X107 at_175 (feq hc109).2 (by decide) (pc' := 182) rfl ?_
      refine own_iconst X107 at_182 (pc' := 183) rfl (z := (0 : Int32)) rfl ?_
      refine own_iret X107 (t := .boolean) (w := (0 : Int32)) hret (by simp) at_183 rfl (by decide) (by decide) ?_
      exact congrArg (fun t => some (Value.int t)) (show (0 : Int32) = own_F0 p1 p2 p3 p4 p5 from (by rw [own_F0, if_neg hc109]))
  by_cases hc75 : (own_v0_99 p1 p2 p3 p4 p5) = (0 : Int32)
  · refine own_ifY X72 at_102 (teq hc75).1 (by decide) (pc' := 111) rfl ?_
    refine own_aload X72 at_111 (pc' := 113) rfl (v := (.ref b1)) rfl rfl ?_
    refine own_iload X72 at_113 (pc' := 115) rfl (v := (p2.toInt8.toInt32)) rfl ?_
    refine own_iload X72 at_115 (pc' := 117) rfl (v := (own_v0_63 p4)) rfl ?_
    refine own_iload X72 at_117 (pc' := 119) rfl (v := (own_v0_72 p5)) rfl ?_
    refine own_iconst X72 at_119 (pc' := 120) rfl (z := (1 : Int32)) rfl ?_
    refine own_callS X72 (argsL := [(.ref b1), (.int (p2.toInt8.toInt32)), (.int (own_v0_63 p4)), (.int (own_v0_72 p5)), (.int (1 : Int32))]) (S := []) (own_rm3 l Z a0 hw b1 [(own_v0_20 p1 p2 p3), (own_v0_32 p1 p2 p3), (own_v0_44 p1 p2 p3), (own_v0_56 p1 p2 p3)] (p2.toInt8.toInt32) (own_v0_63 p4) (own_v0_72 p5) (1 : Int32) h56 n0 X72.2.2.2.2.2.2.2.2.1 V60 (by decide) (by decide)) (hw _ (List.mem_of_getElem? (i := 10) rfl)) (hw _ (List.mem_of_getElem? (i := 11) rfl)) (hw _ (List.mem_of_getElem? (i := 3) rfl)) (hw _ (List.mem_of_getElem? (i := 12) rfl)) (by decide) (by decide) 0 (by decide) rfl own_pd2 rfl rfl (Nat.le_of_eq rfl) (by decide) (by decide) at_120 (pc' := 123) rfl fun T76 h77 lc78 r79 X80 Q81 => ?_
    obtain ⟨rfl, e82⟩ := Q81
    replace e82 := e82.symm
    subst e82
    show own_E p e below _ (T76.setTop (mkF m 123 #[.val (.int p1), .val (.int p2), .val (.int p3), .val (.int p4), .val (.int p5), .val (.int (p2.toInt8.toInt32)), .val (.ref b1), .val (.int (own_v0_63 p4)), .val (.int (own_v0_72 p5)), .val (.int (own_v0_82 p1 p2 p3 p4 p5)), .val (.int (-1 : Int32))] [(.int (own_v0_120 p1 p2 p3 p4 p5))]))
    by_cases hc83 : (own_v0_120 p1 p2 p3 p4 p5) = (0 : Int32)
    · refine own_ifY X80 at_123 (teq hc83).1 (by decide) (pc' := 132) rfl ?_
      refine own_aload X80 at_132 (pc' := 134) rfl (v := (.ref b1)) rfl rfl ?_
      refine own_iload X80 at_134 (pc' := 136) rfl (v := (p2.toInt8.toInt32)) rfl ?_
      refine own_iload X80 at_136 (pc' := 138) rfl (v := (own_v0_63 p4)) rfl ?_
      refine own_iload X80 at_138 (pc' := 140) rfl (v := (own_v0_72 p5)) rfl ?_
      refine own_iconst X80 at_140 (pc' := 141) rfl (z := (2 : Int32)) rfl ?_
      refine own_callS X80 (argsL := [(.ref b1), (.int (p2.toInt8.toInt32)), (.int (own_v0_63 p4)), (.int (own_v0_72 p5)), (.int (2 : Int32))]) (S := []) (own_rm3 l Z a0 hw b1 [(own_v0_20 p1 p2 p3), (own_v0_32 p1 p2 p3), (own_v0_44 p1 p2 p3), (own_v0_56 p1 p2 p3)] (p2.toInt8.toInt32) (own_v0_63 p4) (own_v0_72 p5) (2 : Int32) h56 n0 X80.2.2.2.2.2.2.2.2.1 V60 (by decide) (by decide)) (hw _ (List.mem_of_getElem? (i := 10) rfl)) (hw _ (List.mem_of_getElem? (i := 11) rfl)) (hw _ (List.mem_of_getElem? (i := 3) rfl)) (hw _ (List.mem_of_getElem? (i := 12) rfl)) (by decide) (by decide) 0 (by decide) rfl own_pd2 rfl rfl (Nat.le_of_eq rfl) (by decide) (by decide) at_141 (pc' := 144) rfl fun T84 h85 lc86 r87 X88 Q89 => ?_
      obtain ⟨rfl, e90⟩ := Q89
      replace e90 := e90.symm
      subst e90
      show own_E p e below _ (T84.setTop (mkF m 144 #[.val (.int p1), .val (.int p2), .val (.int p3), .val (.int p4), .val (.int p5), .val (.int (p2.toInt8.toInt32)), .val (.ref b1), .val (.int (own_v0_63 p4)), .val (.int (own_v0_72 p5)), .val (.int (own_v0_82 p1 p2 p3 p4 p5)), .val (.int (-1 : Int32))] [(.int (own_v0_141 p1 p2 p3 p4 p5))]))
      by_cases hc91 : (own_v0_141 p1 p2 p3 p4 p5) = (0 : Int32)
      · refine own_ifY X88 at_144 (teq hc91).1 (by decide) (pc' := 153) rfl ?_
        refine own_aload X88 at_153 (pc' := 155) rfl (v := (.ref b1)) rfl rfl ?_
        refine own_iload X88 at_155 (pc' := 157) rfl (v := (p2.toInt8.toInt32)) rfl ?_
        refine own_iload X88 at_157 (pc' := 159) rfl (v := (own_v0_63 p4)) rfl ?_
        refine own_iload X88 at_159 (pc' := 161) rfl (v := (own_v0_72 p5)) rfl ?_
        refine own_iconst X88 at_161 (pc' := 162) rfl (z := (3 : Int32)) rfl ?_
        refine own_callS X88 (argsL := [(.ref b1), (.int (p2.toInt8.toInt32)), (.int (own_v0_63 p4)), (.int (own_v0_72 p5)), (.int (3 : Int32))]) (S := []) (own_rm3 l Z a0 hw b1 [(own_v0_20 p1 p2 p3), (own_v0_32 p1 p2 p3), (own_v0_44 p1 p2 p3), (own_v0_56 p1 p2 p3)] (p2.toInt8.toInt32) (own_v0_63 p4) (own_v0_72 p5) (3 : Int32) h56 n0 X88.2.2.2.2.2.2.2.2.1 V60 (by decide) (by decide)) (hw _ (List.mem_of_getElem? (i := 10) rfl)) (hw _ (List.mem_of_getElem? (i := 11) rfl)) (hw _ (List.mem_of_getElem? (i := 3) rfl)) (hw _ (List.mem_of_getElem? (i := 12) rfl)) (by decide) (by decide) 0 (by decide) rfl own_pd2 rfl rfl (Nat.le_of_eq rfl) (by decide) (by decide) at_162 (pc' := 165) rfl fun T92 h93 lc94 r95 X96 Q97 => ?_
        obtain ⟨rfl, e98⟩ := Q97
        replace e98 := e98.symm
        subst e98
        show own_E p e below _ (T92.setTop (mkF m 165 #[.val (.int p1), .val (.int p2), .val (.int p3), .val (.int p4), .val (.int p5), .val (.int (p2.toInt8.toInt32)), .val (.ref b1), .val (.int (own_v0_63 p4)), .val (.int (own_v0_72 p5)), .val (.int (own_v0_82 p1 p2 p3 p4 p5)), .val (.int (-1 : Int32))] [(.int (own_v0_162 p1 p2 p3 p4 p5))]))
        by_cases hc99 : (own_v0_162 p1 p2 p3 p4 p5) = (0 : Int32)
        · refine own_ifY X96 at_165 (teq hc99).1 (by decide) (pc' := 171) rfl ?_
          have K105_ := K105 T92 _ X96
          have q110 : (own_j0_171 p1 p2 p3 p4 p5) = (-1 : Int32) := by rw [own_j0_171, if_pos hc75, if_pos hc83, if_pos hc91, if_pos hc99]
          rw [q110] at K105_
          exact K105_
        · refine own_ifN X96 at_165 (feq hc99).1 (pc' := 168) rfl ?_
          refine own_iconst X96 at_168 (pc' := 169) rfl (z := (3 : Int32)) rfl ?_
          refine own_istore X96 at_169 (pc' := 171) rfl (y := (3 : Int32)) rfl (Ls' := #[.val (.int p1), .val (.int p2), .val (.int p3), .val (.int p4), .val (.int p5), .val (.int (p2.toInt8.toInt32)), .val (.ref b1), .val (.int (own_v0_63 p4)), .val (.int (own_v0_72 p5)), .val (.int (own_v0_82 p1 p2 p3 p4 p5)), .val (.int (3 : Int32))]) rfl ?_
          have K105_ := K105 T92 _ X96
          have q111 : (own_j0_171 p1 p2 p3 p4 p5) = (3 : Int32) := by rw [own_j0_171, if_pos hc75, if_pos hc83, if_pos hc91, if_neg hc99]
          rw [q111] at K105_
          exact K105_
      · refine own_ifN X88 at_144 (feq hc91).1 (pc' := 147) rfl ?_
        refine own_iconst X88 at_147 (pc' := 148) rfl (z := (2 : Int32)) rfl ?_
        refine own_istore X88 at_148 (pc' := 150) rfl (y := (2 : Int32)) rfl (Ls' := #[.val (.int p1), .val (.int p2), .val (.int p3), .val (.int p4), .val (.int p5), .val (.int (p2.toInt8.toInt32)), .val (.ref b1), .val (.int (own_v0_63 p4)), .val (.int (own_v0_72 p5)), .val (.int (own_v0_82 p1 p2 p3 p4 p5)), .val (.int (2 : Int32))]) rfl ?_
        refine own_goto X88 at_150 (by decide) (pc' := 171) rfl ?_
        have K105_ := K105 T84 _ X88
        have q112 : (own_j0_171 p1 p2 p3 p4 p5) = (2 : Int32) := by rw [own_j0_171, if_pos hc75, if_pos hc83, if_neg hc91]
        rw [q112] at K105_
        exact K105_
    · refine own_ifN X80 at_123 (feq hc83).1 (pc' := 126) rfl ?_
      refine own_iconst X80 at_126 (pc' := 127) rfl (z := (1 : Int32)) rfl ?_
      refine own_istore X80 at_127 (pc' := 129) rfl (y := (1 : Int32)) rfl (Ls' := #[.val (.int p1), .val (.int p2), .val (.int p3), .val (.int p4), .val (.int p5), .val (.int (p2.toInt8.toInt32)), .val (.ref b1), .val (.int (own_v0_63 p4)), .val (.int (own_v0_72 p5)), .val (.int (own_v0_82 p1 p2 p3 p4 p5)), .val (.int (1 : Int32))]) rfl ?_
      refine own_goto X80 at_129 (by decide) (pc' := 171) rfl ?_
      have K105_ := K105 T76 _ X80
      have q113 : (own_j0_171 p1 p2 p3 p4 p5) = (1 : Int32) := by rw [own_j0_171, if_pos hc75, if_neg hc83]
      rw [q113] at K105_
      exact K105_
  · refine own_ifN X72 at_102 (feq hc75).1 (pc' := 105) rfl ?_
    refine own_iconst X72 at_105 (pc' := 106) rfl (z := (0 : Int32)) rfl ?_
    refine own_istore X72 at_106 (pc' := 108) rfl (y := (0 : Int32)) rfl (Ls' := #[.val (.int p1), .val (.int p2), .val (.int p3), .val (.int p4), .val (.int p5), .val (.int (p2.toInt8.toInt32)), .val (.ref b1), .val (.int (own_v0_63 p4)), .val (.int (own_v0_72 p5)), .val (.int (own_v0_82 p1 p2 p3 p4 p5)), .val (.int (0 : Int32))]) rfl ?_
    refine own_goto X72 at_108 (by decide) (pc' := 171) rfl ?_
    have K105_ := K105 T68 _ X72
    have q114 : (own_j0_171 p1 p2 p3 p4 p5) = (0 : Int32) := by rw [own_j0_171, if_neg hc75]
    rw [q114] at K105_
    exact K105_
theorem own_five {f : Int32} (h0 : 0 ≤ f.toInt) (h1 : f.toInt ≤ 4) : f = 0 ∨ f = 1 ∨ f = 2 ∨ f = 3 ∨ f = 4 := by
  simp only [own_eq, show (0 : Int32).toInt = 0 from rfl, show (1 : Int32).toInt = 1 from rfl, show (2 : Int32).toInt = 2 from rfl, show (3 : Int32).toInt = 3 from rfl, show (4 : Int32).toInt = 4 from rfl]; omega
theorem own_law (x0 x1 x2 x3 b f t : Int32) (hf : f = 0 ∨ f = 1 ∨ f = 2 ∨ f = 3 ∨ f = 4) (ht : t = 0 ∨ t = 1 ∨ t = 2 ∨ t = 3 ∨ t = 4) : own_F2 [x0, x1, x2, x3] b f t = (if own_F3 [x0, x1, x2, x3] b f t 0 = (0 : Int32) then (if own_F3 [x0, x1, x2, x3] b f t 1 = (0 : Int32) then (if own_F3 [x0, x1, x2, x3] b f t 2 = (0 : Int32) then (if own_F3 [x0, x1, x2, x3] b f t 3 = (0 : Int32) then (-1 : Int32) else (3 : Int32)) else (2 : Int32)) else (1 : Int32)) else (0 : Int32)) := by
  rcases hf with rfl | rfl | rfl | rfl | rfl <;> rcases ht with rfl | rfl | rfl | rfl | rfl <;> simp +decide [own_F2, own_F3, List.getD]
theorem own_plain (p1 p2 p3 p4 p5 : Int32) : own_F0 p1 p2 p3 p4 p5 = 1 := by
  rw [own_F0, if_pos]
  exact own_law _ _ _ _ _ _ _ (own_five (own_m5 p4).1 (own_m5 p4).2) (own_five (own_m5 p5).1 (own_m5 p5).2)
set_option maxRecDepth 65536 in
set_option maxHeartbeats 40000000 in
theorem own_comes {Post : Tables → Env → Array Value → State → Outcome → State → Prop} (hpost : ∀ tb e args s v u, (limb_1_1.after args s (.returned v) u = true ∧ limb_1_2.after args s (.returned v) u = true) → FrameEnd s (.returned v) u (Jvm.fieldLocs frame_1_writes args s ++ Jvm.arrayLocs frame_1_arrays args s ++ Jvm.staticLocs frame_1_statics s) 16 128 → Post tb e args s (.returned v) u) :
    ArmFor flags0 classFile x code maxLocals ret World_1 tables_1 room_1 Calls_1 rest_1 Pre_1 Post := by
  intro l hfl _ _ p e ha hc hk s m args below hf hA hF happ hP
  obtain ⟨hcalls, hrest, hpre⟩ := hP
  obtain ⟨-, -, -, hnamed, -, -, -, hat⟩ := (Spec.applies_iff hf).mp happ
  obtain ⟨hg, hn⟩ := and_e (Cond.before_iff.mp (show (Jvm.Cond.and given_1 narrow_1).before args s = true from hpre))
  obtain ⟨g1, g2⟩ := and_e hg
  obtain ⟨g3, g4⟩ := and_e g2
  obtain ⟨g5, g6⟩ := and_e g4
  obtain ⟨g7, g8⟩ := and_e g6
  obtain ⟨g9, g10⟩ := and_e g8
  obtain ⟨w0, w1, w2, w3, w4, rfl⟩ : ∃ w0 w1 w2 w3 w4 : Value, args = #[w0, w1, w2, w3, w4] := by
    have hs : args.size = 5 := by simpa [Cond.value, given_1] using g1
    obtain ⟨L⟩ := args
    match L, hs with
    | [w0, w1, w2, w3, w4], _ => exact ⟨w0, w1, w2, w3, w4, rfl⟩
  have hw := fun d (hd : d ∈ tables_1) => atoms_spec (ws := Jvm.Cond.code x code maxLocals ret :: tables_1) hat d (List.mem_cons_of_mem _ hd)
  obtain ⟨i0, ei0⟩ := is_v g3
  obtain rfl : w0 = (.int i0) := Option.some.inj ei0
  obtain ⟨i1, ei1⟩ := is_v g5
  obtain rfl : w1 = (.int i1) := Option.some.inj ei1
  obtain ⟨i2, ei2⟩ := is_v g7
  obtain rfl : w2 = (.int i2) := Option.some.inj ei2
  obtain ⟨i3, ei3⟩ := is_v g9
  obtain rfl : w3 = (.int i3) := Option.some.inj ei3
  obtain ⟨i4, ei4⟩ := is_v g10
  obtain rfl : w4 = (.int i4) := Option.some.inj ei4
  obtain ⟨n, o, h1, h2, h3, v, L, rfl, ⟨hq1, N, _⟩, hq⟩ := own_rm0 l s _ hw i0 i1 i2 i3 i4 s.heap s.heap.size (Nat.le_refl _)  tables_1 p e ha hc hk s m _ below hf ((Spec.applies_iff_loose hf).mp happ).1 ⟨rfl, State.Warmed39.refl s, rfl⟩ trivial
  obtain rfl : v = some (.int 1) := by rw [hq1, own_plain i0 i1 i2 i3 i4]
  exact ⟨n, _, h1, h2, h3, hpost _ _ _ _ _ _ ⟨Cond.after_iff.mpr rfl, Cond.after_iff.mpr (eq_i res_at (Term.int_eval (1)) rfl)⟩ ⟨hq.1, hq.2.1, (hq.2.2.sift fun y hy => Or.inr (N y hy)).mono (by decide) (by decide)⟩⟩
theorem main_1_1 : Claimed_1_1 := own_comes fun _ _ _ _ _ _ h hF => ⟨h.1, hF⟩
theorem main_1_2 : Claimed_1_2 := own_comes fun _ _ _ _ _ _ h hF => ⟨h.2, hF⟩
end Jvm.Pilot.@@N@@
namespace Jvm.Pilot.@@N@@
open Jvm Jvm.ClassFile Sem Op Lib Jvm.Free Jvm.Stand Jvm.Pilot.@@N@@.Jvm.D
/-! MADE BY PROGRAM (witnessworld.py) out of the Statement's table words and the real class files: 9 classes; the members and pool entries that the words name. The judged class is class 1, her method 1. -/
namespace start1
open Jvm.ClassFile
def u (s : String) : CpInfo := .utf8 (stringToUtf16 s)
/-- a pool by its gaps: so many unusable entries, then the entry; so many at the end -/
def gap : Nat → List CpInfo → List CpInfo
  | 0, r => r
  | n + 1, r => .unusable :: gap n r
def poolList (es : List (Nat × CpInfo)) (last : Nat) : List CpInfo := es.foldr (fun e r => gap e.1 (e.2 :: r)) (gap last [])
def pool (es : List (Nat × CpInfo)) (last : Nat) : Array CpInfo := ⟨poolList es last⟩
def fileOf (pool : Array CpInfo) (this : Nat) (attrs : Array Attribute := #[]) (ms : Array MethodInfo := #[]) (fl : Nat := 33) (sup : Nat := 0) (ifs : Array Nat := #[]) (fds : Array FieldInfo := #[]) : ClassFile where
  minorVersion := 0
  majorVersion := 65
  constantPool := pool
  accessFlags := fl
  thisClass := this
  superClass := sup
  interfaces := ifs
  fields := fds
  methods := ms
  attributes := attrs
def plain (name : String) (sup : Option ClassId) : Class where
  name := name
  kind := .ordinary
  loader := none
  accessFlags := 33
  super := sup
  interfaces := #[]
  cf := none
  fields := #[]
  methods := #[]
  instanceTypes := #[]
  staticTypes := #[]
  resolved := #[]
  callSites := []
  init := .initialized
  statics := none
  mirror := none

def pool0 : Array CpInfo := pool [(5, u "<init>"), (0, u "()V"), (1, .class_ 10), (1, u "java/lang/Object")] 113

def k0m0 : Method := { name := "<init>", desc := "()V", sig := { parameters := [], returnType := none }, accessFlags := 1, code := none }
/-- java/lang/Object -/
def k0 : Class := { plain "java/lang/Object" none with
  accessFlags := 33
  interfaces := #[]
  cf := some (fileOf pool0 8 #[] #[{ accessFlags := 1, nameIndex := 5, descriptorIndex := 6, attributes := #[] }] 33 0 #[] #[])
  fields := #[]
  methods := #[k0m0]
  instanceTypes := #[]
  staticTypes := #[]
  resolved := Array.replicate 124 none
  statics := none }

def pool1 : Array CpInfo := pool [(2, .class_ 4), (1, u "java/lang/Object"), (0, u "<init>"), (0, u "()V"), (0, .methodref 8 9), (0, .class_ 10), (0, .nameAndType 11 12), (0, u "com/example/orderflot/orderflot/fix/FixMessageIndexOfPinLaw"), (0, u "pick"), (0, u "(IIIB)B"), (0, .integer 2147483647), (0, .methodref 15 16), (0, .class_ 17), (0, .nameAndType 18 19), (0, u "com/example/orderflot/orderflot/fix/FixMessage"), (0, u "indexOf"), (0, u "([BBII)I"), (0, .methodref 8 21), (0, .nameAndType 22 23), (0, u "hit"), (0, u "([BBIII)Z"), (2, u "law"), (0, u "(IIIII)Z")] 5

def k1m0 : Method := { name := "<init>", desc := "()V", sig := { parameters := [], returnType := none }, accessFlags := 1, code := none }
def k1c1 : Code := { maxStack := 6, maxLocals := 11, code := code, exceptionTable := #[], attributes := #[] }
def k1m1 : Method := { name := "law", desc := "(IIIII)Z", sig := { parameters := [.int, .int, .int, .int, .int], returnType := some .boolean }, accessFlags := 9, code := some k1c1 }
def k1c2 : Code := { maxStack := 3, maxLocals := 4, code := method_3_code, exceptionTable := #[], attributes := #[] }
def k1m2 : Method := { name := "pick", desc := "(IIIB)B", sig := { parameters := [.int, .int, .int, .byte], returnType := some .byte }, accessFlags := 10, code := some k1c2 }
def k1c3 : Code := { maxStack := 2, maxLocals := 5, code := method_4_code, exceptionTable := #[], attributes := #[] }
def k1m3 : Method := { name := "hit", desc := "([BBIII)Z", sig := { parameters := [(.array .byte), .byte, .int, .int, .int], returnType := some .boolean }, accessFlags := 10, code := some k1c3 }
/-- com/example/orderflot/orderflot/fix/FixMessageIndexOfPinLaw -/
def k1 : Class := { plain "com/example/orderflot/orderflot/fix/FixMessageIndexOfPinLaw" (some 0) with
  accessFlags := 49
  interfaces := #[]
  cf := some (fileOf pool1 8 #[] #[{ accessFlags := 1, nameIndex := 5, descriptorIndex := 6, attributes := #[] }, { accessFlags := 9, nameIndex := 26, descriptorIndex := 27, attributes := #[] }, { accessFlags := 10, nameIndex := 11, descriptorIndex := 12, attributes := #[] }, { accessFlags := 10, nameIndex := 22, descriptorIndex := 23, attributes := #[] }] 49 2 #[] #[])
  fields := #[]
  methods := #[k1m0, k1m1, k1m2, k1m3]
  instanceTypes := #[]
  staticTypes := #[]
  resolved := Array.replicate 33 none
  statics := none }

def pool2 : Array CpInfo := pool [(2, .class_ 4), (1, u "java/lang/Object"), (3, .class_ 10), (1, u "com/example/orderflot/orderflot/fix/FixMessage"), (0, u "tags"), (0, u "[I"), (2, u "values"), (0, u "[Ljava/lang/String;"), (2, u "size"), (0, u "I"), (17, u "indexOf"), (0, u "([BBII)I"), (4, .class_ 45), (0, u "com/example/orderflot/orderflot/fix/FixMessage$Fault"), (176, u "SOH"), (0, u "B"), (2, u "MAX_DIGITS")] 57

def k2c0 : Code := { maxStack := 2, maxLocals := 6, code := prog_22_method_16_code, exceptionTable := #[], attributes := #[] }
def k2m0 : Method := { name := "indexOf", desc := "([BBII)I", sig := { parameters := [(.array .byte), .byte, .int, .int], returnType := some .int }, accessFlags := 9, code := some k2c0 }
/-- com/example/orderflot/orderflot/fix/FixMessage -/
def k2 : Class := { plain "com/example/orderflot/orderflot/fix/FixMessage" (some 0) with
  accessFlags := 33
  interfaces := #[]
  cf := some (fileOf pool2 8 #[.nestMembers #[44]] #[{ accessFlags := 9, nameIndex := 38, descriptorIndex := 39, attributes := #[] }] 33 2 #[] #[{ accessFlags := 26, nameIndex := 222, descriptorIndex := 223, attributes := #[] }, { accessFlags := 26, nameIndex := 226, descriptorIndex := 20, attributes := #[] }, { accessFlags := 18, nameIndex := 11, descriptorIndex := 12, attributes := #[] }, { accessFlags := 18, nameIndex := 15, descriptorIndex := 16, attributes := #[] }, { accessFlags := 18, nameIndex := 19, descriptorIndex := 20, attributes := #[] }])
  fields := #[{ name := "SOH", type := .byte, accessFlags := 26, slot := 0, constantValue := 0 }, { name := "MAX_DIGITS", type := .int, accessFlags := 26, slot := 1, constantValue := 0 }, { name := "tags", type := (.array .int), accessFlags := 18, slot := 0, constantValue := 0 }, { name := "values", type := (.array (.object "java/lang/String")), accessFlags := 18, slot := 1, constantValue := 0 }, { name := "size", type := .int, accessFlags := 18, slot := 2, constantValue := 0 }]
  methods := #[k2m0]
  instanceTypes := #[(.array .int), (.array (.object "java/lang/String")), .int]
  staticTypes := #[.byte, .int]
  resolved := Array.replicate 284 none
  statics := none }

def pool3 : Array CpInfo := pool [(1, u "java/lang/Cloneable"), (0, .class_ 1), (0, u "java/lang/Object"), (0, .class_ 3)] 3

/-- java/lang/Cloneable -/
def k3 : Class := { plain "java/lang/Cloneable" (some 0) with
  accessFlags := 1537
  interfaces := #[]
  cf := some (fileOf pool3 2 #[] #[] 1537 4 #[] #[])
  fields := #[]
  methods := #[]
  instanceTypes := #[]
  staticTypes := #[]
  resolved := Array.replicate 8 none
  statics := none }

def pool4 : Array CpInfo := pool [(1, u "java/io/Serializable"), (0, .class_ 1), (0, u "java/lang/Object"), (0, .class_ 3)] 3

/-- java/io/Serializable -/
def k4 : Class := { plain "java/io/Serializable" (some 0) with
  accessFlags := 1537
  interfaces := #[]
  cf := some (fileOf pool4 2 #[] #[] 1537 4 #[] #[])
  fields := #[]
  methods := #[]
  instanceTypes := #[]
  staticTypes := #[]
  resolved := Array.replicate 8 none
  statics := none }

/-- the primitive byte -/
def k5 : Class := { plain "byte" none with kind := .primitive 'B', accessFlags := 0x411 }
/-- [B -/
def k6 : Class := { plain "[B" (some 0) with kind := .array 5 .byte, interfaces := #[3, 4], accessFlags := 1041 }

/-- the primitive int -/
def k7 : Class := { plain "int" none with kind := .primitive 'I', accessFlags := 0x411 }
/-- [I -/
def k8 : Class := { plain "[I" (some 0) with kind := .array 7 .int, interfaces := #[3, 4], accessFlags := 1041 }

def heap : Heap := #[]
def classes : Array Class := #[k0, k1, k2, k3, k4, k5, k6, k7, k8]
def interned : List (Array UInt16 × Addr) := []
def slotsUsed : Nat := 0
def theMethod : MethodId := ⟨1, 1⟩
def args0 : Array Value := #[.int 5, .int 6, .int 7, .int 1, .int 3]
def aboutOver (below : List Frame) : State where
  vm := { classes := classes, interned := interned.toArray }
  heap := heap
  slotsUsed := slotsUsed
  threads := #[{ frames := .invoking theMethod args0 :: below }]
def below0 : List Frame := [.native { method := ⟨0, 0⟩, args := #[] }]
def about1 : State := aboutOver below0
def p0 : Program := .bare "" "" ""
def e0 : Env := launch0.env 0 0 0
theorem w_frames : about1.frames = Frame.invoking theMethod args0 :: below0 := rfl
set_option maxRecDepth 65536 in
theorem w_args : argsFit about1.vm theMethod args0 = true := by decide +kernel
set_option maxRecDepth 65536 in
theorem w_heap : heapFits about1 = true := by decide +kernel
set_option maxRecDepth 65536 in
theorem w_runnable : about1.curStatus? = some .runnable := by decide +kernel
set_option maxRecDepth 65536 in
theorem w_alone : about1.alone = true := by decide +kernel
set_option maxRecDepth 65536 in
theorem w_named : about1.methodNamed? x = some theMethod := by decide +kernel
set_option maxRecDepth 65536 in
theorem w_hears : about1.hears theMethod below0 = true := by decide +kernel
set_option maxRecDepth 65536 in
theorem w_ripe : about1.ripe theMethod args0 below0 = true := by decide +kernel
theorem w_running : about1.status = .running := rfl
set_option maxRecDepth 65536 in
theorem w_room : about1.hasRoom e0.platform room_1 = true :=
  launch0.hasRoom_least _ room_1 (by decide +kernel) (by decide +kernel) (by decide +kernel) (by decide +kernel) (by decide +kernel) (by decide +kernel)
theorem allAtoms_all (ts : List Jvm.Cond) (a : Array Jvm.Value) (st : Jvm.State) : (allAtoms ts).before a st = ts.all (fun c => c.before a st) := by
  induction ts with
  | nil => rfl
  | cons c t ih =>
    show (Jvm.Cond.and c (allAtoms t)).before a st = _
    rw [Jvm.Cond.before_and, ih, List.all_cons]
def words1 : List Jvm.Cond := Jvm.Cond.code x code maxLocals ret :: tables_1
/-- a 'code' word, met by the world's own term for the bytes: nothing is compared byte by byte -/
theorem code_word {y : MethodName} {bytes : ByteArray} {mx : Nat} {rt : Option FieldType} {a : Array Value} {s : State} {m : MethodId} {meth : Method} {c : Code} (h1 : s.methodNamed? y = some m) (h2 : s.vm.method? m = some meth) (h3 : meth.code = some c) (h4 : c.code = bytes)
    (h5 : (c.maxLocals == mx && c.exceptionTable.isEmpty && decide (c.maxStack ≤ mostOperands) && decide (meth.sig.returnType = rt) && !meth.locks && decide (parseMethodDescriptor y.desc = some meth.sig)) = true) : (Jvm.Cond.code y bytes mx rt).before a s = true := by
  simp only [Bool.and_eq_true, beq_iff_eq, Bool.not_eq_true', decide_eq_true_eq] at h5
  obtain ⟨⟨⟨⟨⟨g1, g2⟩, g3⟩, g4⟩, g5⟩, g6⟩ := h5
  simp [Cond.before, Cond.holds, Cond.value, h1, h2, h3, h4, g1, g2, g3, g4, g5, g6]
def isCode : Jvm.Cond → Bool
  | .code _ _ _ _ => true
  | _ => false
theorem all_split {L : List Jvm.Cond} {P : Jvm.Cond → Bool} (h1 : L.all (fun c => isCode c || P c) = true) (h2 : ∀ c ∈ L.filter isCode, P c = true) : L.all P = true := by
  refine List.all_eq_true.mpr fun c hc => ?_
  have h := List.all_eq_true.mp h1 c hc
  rcases Bool.eq_false_or_eq_true (isCode c) with hi | hi
  · exact h2 c (List.mem_filter.mpr ⟨hc, hi⟩)
  · simpa [hi] using h
set_option maxRecDepth 65536 in
theorem w_c0 : (Jvm.Cond.code x code maxLocals ret).before args0 about1 = true := code_word (m := ⟨1, 1⟩) (meth := k1m1) (c := k1c1) (by decide +kernel) rfl rfl rfl (by decide +kernel)
set_option maxRecDepth 65536 in
theorem w_c1 : (Jvm.Cond.code ({ cls := "com/example/orderflot/orderflot/fix/FixMessageIndexOfPinLaw", name := "pick", desc := "(IIIB)B" } : Jvm.MethodName) method_3_code (4 : Nat) (Option.some Jvm.ClassFile.FieldType.byte)).before args0 about1 = true := code_word (m := ⟨1, 2⟩) (meth := k1m2) (c := k1c2) (by decide +kernel) rfl rfl rfl (by decide +kernel)
set_option maxRecDepth 65536 in
theorem w_c2 : (Jvm.Cond.code ({ cls := "com/example/orderflot/orderflot/fix/FixMessage", name := "indexOf", desc := "([BBII)I" } : Jvm.MethodName) prog_22_method_16_code (6 : Nat) (Option.some Jvm.ClassFile.FieldType.int)).before args0 about1 = true := code_word (m := ⟨2, 0⟩) (meth := k2m0) (c := k2c0) (by decide +kernel) rfl rfl rfl (by decide +kernel)
set_option maxRecDepth 65536 in
theorem w_c3 : (Jvm.Cond.code ({ cls := "com/example/orderflot/orderflot/fix/FixMessageIndexOfPinLaw", name := "hit", desc := "([BBIII)Z" } : Jvm.MethodName) method_4_code (5 : Nat) (Option.some Jvm.ClassFile.FieldType.boolean)).before args0 about1 = true := code_word (m := ⟨1, 3⟩) (meth := k1m3) (c := k1c3) (by decide +kernel) rfl rfl rfl (by decide +kernel)
def codes1 : List Jvm.Cond := [Jvm.Cond.code x code maxLocals ret, Jvm.Cond.code ({ cls := "com/example/orderflot/orderflot/fix/FixMessageIndexOfPinLaw", name := "pick", desc := "(IIIB)B" } : Jvm.MethodName) method_3_code (4 : Nat) (Option.some Jvm.ClassFile.FieldType.byte), Jvm.Cond.code ({ cls := "com/example/orderflot/orderflot/fix/FixMessage", name := "indexOf", desc := "([BBII)I" } : Jvm.MethodName) prog_22_method_16_code (6 : Nat) (Option.some Jvm.ClassFile.FieldType.int), Jvm.Cond.code ({ cls := "com/example/orderflot/orderflot/fix/FixMessageIndexOfPinLaw", name := "hit", desc := "([BBIII)Z" } : Jvm.MethodName) method_4_code (5 : Nat) (Option.some Jvm.ClassFile.FieldType.boolean)]
set_option maxRecDepth 65536 in
theorem codes_eq : words1.filter isCode = codes1 := rfl
theorem w_codes : ∀ c ∈ words1.filter isCode, c.before args0 about1 = true := by
  rw [codes_eq]
  intro c hc
  simp only [codes1, List.mem_cons, List.not_mem_nil, or_false] at hc
  rcases hc with rfl | rfl | rfl | rfl
  · exact w_c0
  · exact w_c1
  · exact w_c2
  · exact w_c3
set_option maxRecDepth 65536 in
theorem w_t1 : words1.all (fun c => isCode c || c.before args0 about1) = true := by decide +kernel
theorem w_tables : (allAtoms (Jvm.Cond.code x code maxLocals ret :: tables_1)).before args0 about1 = true := by
  rw [allAtoms_all]
  show words1.all (fun c => c.before args0 about1) = true
  refine all_split ?_ w_codes
  rw [w_t1]
set_option maxRecDepth 65536 in
theorem w_case : (Jvm.Cond.and given_1 narrow_1).before args0 about1 = true := by decide +kernel
theorem w_applies : (headSpec (Jvm.Cond.code x code maxLocals ret :: tables_1) room_1).applies x e0.platform about1 = true :=
  (Spec.applies_iff w_frames).mpr ⟨w_running, w_runnable, w_alone, w_named, w_hears, w_ripe, w_room, w_tables⟩
theorem atStart : AtStart classFile x code maxLocals ret World_1 tables_1 room_1 Calls_1 rest_1 Pre_1 launch0 p0 e0 about1 theMethod args0 below0 :=
  ⟨lists_1, trivial, launch0.admits_env _ _ _, launch0.least_env, fairChoices_fair.cas, fairChoices_fair.clock, w_frames, w_args, w_heap, w_applies, trivial, trivial, w_case⟩
end start1
theorem witness_1 : WitnessClaimed_1 := ⟨start1.p0, start1.e0, start1.about1, start1.theMethod, start1.args0, start1.below0, start1.atStart⟩
end Jvm.Pilot.@@N@@
