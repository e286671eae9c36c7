import JvmDerived
import JvmDerived.Pilot.@@N@@Statement
import JvmDerived.Pilot.@@N@@Code
set_option linter.unusedVariables false
set_option linter.unusedSimpArgs false
namespace Jvm.Pilot.@@N@@
open Jvm Jvm.ClassFile Sem Op Lib Jvm.Free Jvm.Stand Jvm.LawKit Jvm.RoadKit Bundle Jvm.Pilot.@@N@@.Jvm.D
/-! OWN KIT: the walk's steps in one form: 'own_A' where the run stands, 'own_E' that it ends as G says. -/
def own_E (p : Program) (e : Env) (below : List Frame) (G : Outcome → State → Prop) (A : State) : Prop := ∃ s₂ o, Steps p.tables e below A s₂ ∧ s₂.status = .running ∧ Ended s₂ below o ∧ G o s₂
def own_A (l : Launch) (Z : State) (own : String) (cb : ByteArray) (ml n0 : Nat) (p : Program) (e : Env) (R : Room) (s : State) (m : MethodId) (args : Array Value) (below : List Frame) (meth : Method) (c : Code) (T : State) (h : Heap) (locs : List Loc) (cells slots : Nat) : Prop :=
  Stand p l e R s m args below meth c T locs cells slots ∧ p.tables.exec = Jvm.exec ∧ Z.Warmed39 s.vm ∧ c.code = cb ∧ c.maxLocals = ml ∧ s.vm.findClass own = some m.cls ∧ T.heap = h ∧ Fr n0 locs ∧ n0 ≤ h.size ∧ meth.locks = false
def own_G (R : Room) (s : State) (n0 : Nat) (Q : Option Value → Heap → Prop) (o : Outcome) (U : State) : Prop := ∃ v L, o = .returned v ∧ (Q v U.heap ∧ Fr n0 L ∧ n0 ≤ U.heap.size) ∧ FrameEnd s o U L R.cells R.slots
def own_Con (l : Launch) (Z : State) (y : MethodName) (cb : ByteArray) (ml : Nat) (ret : Option FieldType) (rm : Room) (as' : Array Value) (h0 : Heap) (n0 : Nat) (Q : Option Value → Heap → Prop) : Prop :=
  ∀ ws, MetFree l y (head1 (Jvm.Cond.code y cb ml ret :: ws) rm) (fun a U => a = as' ∧ Z.Warmed39 U.vm ∧ U.heap = h0) (fun _ _ _ _ _ => True) (fun _ U o U' => ∃ v L, o = .returned v ∧ (Q v U'.heap ∧ Fr n0 L ∧ n0 ≤ U'.heap.size) ∧ FrameEnd U o U' L rm.cells rm.slots)
theorem own_b255 (x : Int32) : x &&& 255 = x.toInt8.toInt32 &&& 255 := by
  apply Int32.toBitVec_inj.mp
  rw [Int32.toBitVec_and, Int32.toBitVec_and]
  show x.toBitVec &&& (BitVec.ofNat 32 255) = (x.toBitVec.signExtend 8).signExtend 32 &&& (BitVec.ofNat 32 255)
  apply BitVec.eq_of_getLsbD_eq
  intro i hi
  rw [BitVec.getLsbD_and, BitVec.getLsbD_and, BitVec.getLsbD_signExtend, BitVec.getLsbD_signExtend]
  by_cases h : i < 8
  · simp [h, hi]
  · have : ((BitVec.ofNat 32 255)).getLsbD i = false := by
      have h2 : 8 ≤ i := by omega
      have : ((BitVec.ofNat 32 255)).getLsbD i = Nat.testBit 255 i := by simp [BitVec.getLsbD]
      rw [this]; exact Nat.testBit_lt_two_pow (Nat.lt_of_lt_of_le (by decide : 255 < 2^8) (Nat.pow_le_pow_right (by decide) h2))
    simp [this]
theorem own_lremE (x y : Int64) : x - (x / y) * y = x % y := by
  apply Int64.toInt_inj.mp
  have h1 := Int64.le_toInt (x % y)
  have h2 := Int64.toInt_lt (x % y)
  rw [Int64.toInt_sub, Int64.toInt_mul, Int64.toInt_div, Int.bmod_mul_bmod, Int.sub_bmod_bmod, Int.mul_comm (x.toInt.tdiv y.toInt), ← Int.tmod_def, ← Int64.toInt_mod]
  exact Int.bmod_eq_of_le_mul_two (by omega) (by omega)
theorem own_addc (x a b c : Int32) (h : a + b = c) : (x + a) + b = x + c := by rw [Int32.add_assoc, h]
theorem own_nb (t : Int32) : nar .byte (t.toInt8.toInt32) = t.toInt8.toInt32 := by
  show (t.toInt8.toInt32).toInt8.toInt32 = t.toInt8.toInt32
  simp
section OwnKit
variable {l : Launch} {Z : State} {a0 : Array Value} {own : String} {cb : ByteArray} {ml n0 : Nat} {p : Program} {e : Env} {R : Room} {s : State} {m : MethodId} {args : Array Value} {below : List Frame} {meth : Method} {c : Code} {T : State} {h h' : Heap} {locs : List Loc} {cells slots : Nat} {G : Outcome → State → Prop} {pc pc' : Nat} {Ls Ls' : Array Slot} {S : List Value}
theorem own_go {A B : State} (h : ∀ t, Steps p.tables e below B t → Steps p.tables e below A t) (k : own_E p e below G B) : own_E p e below G A := by
  obtain ⟨s₂, o, h1, r⟩ := k; exact ⟨s₂, o, h _ h1, r⟩
theorem own_enter {y : MethodName} {ret : Option FieldType} {as' : Array Value} {h0 : Heap} {Q : Option Value → Heap → Prop} (hpl : plainFor y = true) (hsz : n0 ≤ h0.size) (hef : ∀ m, entryFrame m as' ml = mkF m 0 Ls [])
    (k : ∀ p e s m below meth c T, own_A l Z y.cls cb ml n0 p e R s m as' below meth c T h0 [] 0 0 → meth.sig.returnType = ret → meth.name = y.name → own_E p e below (own_G R s n0 Q) (T.setTop (mkF m 0 Ls []))) : own_Con l Z y cb ml ret R as' h0 n0 Q := by
  intro ws
  refine MetFree.of_bodySF hpl hisR ?_
  intro p e s m args below meth c s₁ Bd hml0 hP hK
  obtain ⟨rfl, hZ, hh⟩ := hP
  have e0 : s₁.heap = h0 := by rw [← hh, Bd.state]; rfl
  have K := k p e s m below meth c s₁ ⟨Stand.of_body Bd, Bd.exec, hZ, Bd.bytes, hml0, findClass_of_methodNamed Bd.named, e0, Fr.nil n0, hsz, Bd.notSynchronized⟩ Bd.returns (name_of_methodNamed Bd.named Bd.method).1
  obtain ⟨s₂, o, h1, h2, h3, h4⟩ := K
  exact ⟨s₂, o, castTop (hef m) h1, h2, h3, h4⟩
theorem own_iret (X : own_A l Z own cb ml n0 p e R s m args below meth c T h locs cells slots) {t : FieldType} {z w : Int32} {Q : Option Value → Heap → Prop} (hr : meth.sig.returnType = some t) (ht : t = .int ∨ t = .boolean ∨ t = .byte ∨ t = .char ∨ t = .short) (hd : decode cb pc = .ok (.ireturn, 1)) (hz : nar t z = w) (hc : cells ≤ R.cells) (hs : slots ≤ R.slots) (hQ : Q (some (.int w)) h) :
    own_E p e below (own_G R s n0 Q) (T.setTop (mkF m pc Ls (.int z :: S))) := by
  obtain ⟨X, hx, hZ, hby, hml, hown, rfl, N, hsz, hlk⟩ := X
  subst hz
  obtain ⟨fs, hl, hrun, hended, hW, hsame⟩ := X.leave (v := some (.int (nar t z))) (fun q => by rw [hr] at q; cases q) hlk
  refine ⟨_, _, ?_, hrun, hended, _, locs, rfl, ⟨hQ, N, hsz⟩, ⟨_, rfl⟩, hW, hsame.mono hc hs⟩
  rcases ht with rfl | ht
  · exact retOut X hx hr rfl (Or.inl ⟨rfl, Or.inl rfl, z, rfl⟩) (hb hby hd) hl
  · exact retN X hx hr ht (hb hby hd) hl
theorem own_lret (X : own_A l Z own cb ml n0 p e R s m args below meth c T h locs cells slots) {z : Int64} {Q : Option Value → Heap → Prop} (hr : meth.sig.returnType = some .long) (hd : decode cb pc = .ok (.lreturn, 1)) (hc : cells ≤ R.cells) (hs : slots ≤ R.slots) (hQ : Q (some (.long z)) h) :
    own_E p e below (own_G R s n0 Q) (T.setTop (mkF m pc Ls (.long z :: S))) := by
  obtain ⟨X, hx, hZ, hby, hml, hown, rfl, N, hsz, hlk⟩ := X
  obtain ⟨fs, hl, hrun, hended, hW, hsame⟩ := X.leave (v := some (.long z)) (fun q => by rw [hr] at q; cases q) hlk
  exact ⟨_, _, retOut X hx hr rfl (Or.inr (Or.inl ⟨rfl, rfl, z, rfl⟩)) (hb hby hd) hl, hrun, hended, _, locs, rfl, ⟨hQ, N, hsz⟩, ⟨_, rfl⟩, hW, hsame.mono hc hs⟩
theorem own_aret (X : own_A l Z own cb ml n0 p e R s m args below meth c T h locs cells slots) {t : FieldType} {v : Value} {Q : Option Value → Heap → Prop} (hr : meth.sig.returnType = some t) (ht : t.isReference = true) (hv : v.isRef = true) (hn : narrow t v = v) (hd : decode cb pc = .ok (.areturn, 1)) (hc : cells ≤ R.cells) (hs : slots ≤ R.slots) (hQ : Q (some v) h) :
    own_E p e below (own_G R s n0 Q) (T.setTop (mkF m pc Ls (v :: S))) := by
  obtain ⟨X, hx, hZ, hby, hml, hown, rfl, N, hsz, hlk⟩ := X
  obtain ⟨fs, hl, hrun, hended, hW, hsame⟩ := X.leave (v := some v) (fun q => by rw [hr] at q; cases q) hlk
  exact ⟨_, _, retOut X hx hr hn (Or.inr (Or.inr (Or.inr (Or.inr ⟨rfl, ht, hv⟩)))) (hb hby hd) hl, hrun, hended, _, locs, rfl, ⟨hQ, N, hsz⟩, ⟨_, rfl⟩, hW, hsame.mono hc hs⟩
theorem own_vret (X : own_A l Z own cb ml n0 p e R s m args below meth c T h locs cells slots) {Q : Option Value → Heap → Prop} (hr : meth.sig.returnType = none) (hd : decode cb pc = .ok (.return_, 1)) (hc : cells ≤ R.cells) (hs : slots ≤ R.slots) (hQ : Q none h) :
    own_E p e below (own_G R s n0 Q) (T.setTop (mkF m pc Ls [])) := by
  obtain ⟨X, hx, hZ, hby, hml, hown, rfl, N, hsz, hlk⟩ := X
  obtain ⟨fs, hl, hrun, hended, hW, hsame⟩ := X.leave (v := none) (fun _ => rfl) hlk
  exact ⟨_, _, X.returnOut hx hr (hb hby hd) hl, hrun, hended, _, locs, rfl, ⟨hQ, N, hsz⟩, ⟨_, rfl⟩, hW, hsame.mono hc hs⟩
theorem own_iloadN (X : own_A l Z own cb ml n0 p e R s m args below meth c T h locs cells slots) {i : Fin 4} {v : Int32} (hd : decode cb pc = .ok (.iload_n i, 1)) (hp : pc + 1 = pc') (hl : Ls[i.val]? = some (.val (.int v))) (k : own_E p e below G (T.setTop (mkF m pc' Ls (.int v :: S)))) : own_E p e below G (T.setTop (mkF m pc Ls S)) := by
  subst hp; exact own_go (fun _ => XS.iloadN X.1.here X.2.1 rfl (hb X.2.2.2.1 hd) hl) k
theorem own_iload (X : own_A l Z own cb ml n0 p e R s m args below meth c T h locs cells slots) {i : Nat} {v : Int32} (hd : decode cb pc = .ok (.iload i, 2)) (hp : pc + 2 = pc') (hl : Ls[i]? = some (.val (.int v))) (k : own_E p e below G (T.setTop (mkF m pc' Ls (.int v :: S)))) : own_E p e below G (T.setTop (mkF m pc Ls S)) := by
  subst hp; exact own_go (fun _ => XS.iload X.1.here X.2.1 rfl (hb X.2.2.2.1 hd) hl) k
theorem own_istoreN (X : own_A l Z own cb ml n0 p e R s m args below meth c T h locs cells slots) {i : Fin 4} {x y : Int32} (hd : decode cb pc = .ok (.istore_n i, 1)) (hp : pc + 1 = pc') (hv : x = y) (hl : storeLocals Ls i.val (.int y) = some Ls') (k : own_E p e below G (T.setTop (mkF m pc' Ls' S))) : own_E p e below G (T.setTop (mkF m pc Ls (.int x :: S))) := by
  subst hp; subst hv; exact own_go (fun _ => XS.istoreN X.1.here X.2.1 rfl (hb X.2.2.2.1 hd) rfl hl) k
theorem own_istore (X : own_A l Z own cb ml n0 p e R s m args below meth c T h locs cells slots) {i : Nat} {x y : Int32} (hd : decode cb pc = .ok (.istore i, 2)) (hp : pc + 2 = pc') (hv : x = y) (hl : storeLocals Ls i (.int y) = some Ls') (k : own_E p e below G (T.setTop (mkF m pc' Ls' S))) : own_E p e below G (T.setTop (mkF m pc Ls (.int x :: S))) := by
  subst hp; subst hv; exact own_go (fun _ => XS.istore X.1.here X.2.1 rfl (hb X.2.2.2.1 hd) rfl hl) k
theorem own_lloadN (X : own_A l Z own cb ml n0 p e R s m args below meth c T h locs cells slots) {i : Fin 4} {v : Int64} (hd : decode cb pc = .ok (.lload_n i, 1)) (hp : pc + 1 = pc') (hl : Ls[i.val]? = some (.val (.long v))) (k : own_E p e below G (T.setTop (mkF m pc' Ls (.long v :: S)))) : own_E p e below G (T.setTop (mkF m pc Ls S)) := by
  subst hp; exact own_go (fun _ => XS.lloadN X.1.here X.2.1 rfl (hb X.2.2.2.1 hd) hl) k
theorem own_lload (X : own_A l Z own cb ml n0 p e R s m args below meth c T h locs cells slots) {i : Nat} {v : Int64} (hd : decode cb pc = .ok (.lload i, 2)) (hp : pc + 2 = pc') (hl : Ls[i]? = some (.val (.long v))) (k : own_E p e below G (T.setTop (mkF m pc' Ls (.long v :: S)))) : own_E p e below G (T.setTop (mkF m pc Ls S)) := by
  subst hp; exact own_go (fun _ => XS.lload X.1.here X.2.1 rfl (hb X.2.2.2.1 hd) hl) k
theorem own_lstoreN (X : own_A l Z own cb ml n0 p e R s m args below meth c T h locs cells slots) {i : Fin 4} {x y : Int64} (hd : decode cb pc = .ok (.lstore_n i, 1)) (hp : pc + 1 = pc') (hv : x = y) (hl : storeLocals Ls i.val (.long y) = some Ls') (k : own_E p e below G (T.setTop (mkF m pc' Ls' S))) : own_E p e below G (T.setTop (mkF m pc Ls (.long x :: S))) := by
  subst hp; subst hv; exact own_go (fun _ => XS.lstoreN X.1.here X.2.1 rfl (hb X.2.2.2.1 hd) rfl hl) k
theorem own_lstore (X : own_A l Z own cb ml n0 p e R s m args below meth c T h locs cells slots) {i : Nat} {x y : Int64} (hd : decode cb pc = .ok (.lstore i, 2)) (hp : pc + 2 = pc') (hv : x = y) (hl : storeLocals Ls i (.long y) = some Ls') (k : own_E p e below G (T.setTop (mkF m pc' Ls' S))) : own_E p e below G (T.setTop (mkF m pc Ls (.long x :: S))) := by
  subst hp; subst hv; exact own_go (fun _ => XS.lstore X.1.here X.2.1 rfl (hb X.2.2.2.1 hd) rfl hl) k
theorem own_aloadN (X : own_A l Z own cb ml n0 p e R s m args below meth c T h locs cells slots) {i : Fin 4} {v : Value} (hd : decode cb pc = .ok (.aload_n i, 1)) (hp : pc + 1 = pc') (hl : Ls[i.val]? = some (.val v)) (hr : v.isRef = true) (k : own_E p e below G (T.setTop (mkF m pc' Ls (v :: S)))) : own_E p e below G (T.setTop (mkF m pc Ls S)) := by
  subst hp; exact own_go (fun _ => XS.aloadN X.1.here X.2.1 rfl (hb X.2.2.2.1 hd) hl hr) k
theorem own_aload (X : own_A l Z own cb ml n0 p e R s m args below meth c T h locs cells slots) {i : Nat} {v : Value} (hd : decode cb pc = .ok (.aload i, 2)) (hp : pc + 2 = pc') (hl : Ls[i]? = some (.val v)) (hr : v.isRef = true) (k : own_E p e below G (T.setTop (mkF m pc' Ls (v :: S)))) : own_E p e below G (T.setTop (mkF m pc Ls S)) := by
  subst hp; exact own_go (fun _ => XS.aload X.1.here X.2.1 rfl (hb X.2.2.2.1 hd) hl hr) k
theorem own_astoreN (X : own_A l Z own cb ml n0 p e R s m args below meth c T h locs cells slots) {i : Fin 4} {v : Value} (hd : decode cb pc = .ok (.astore_n i, 1)) (hp : pc + 1 = pc') (hr : v.isRef = true) (hl : storeLocals Ls i.val v = some Ls') (k : own_E p e below G (T.setTop (mkF m pc' Ls' S))) : own_E p e below G (T.setTop (mkF m pc Ls (v :: S))) := by
  subst hp; exact own_go (fun _ => XS.astoreN X.1.here X.2.1 rfl (hb X.2.2.2.1 hd) rfl hr hl) k
theorem own_astore (X : own_A l Z own cb ml n0 p e R s m args below meth c T h locs cells slots) {i : Nat} {v : Value} (hd : decode cb pc = .ok (.astore i, 2)) (hp : pc + 2 = pc') (hr : v.isRef = true) (hl : storeLocals Ls i v = some Ls') (k : own_E p e below G (T.setTop (mkF m pc' Ls' S))) : own_E p e below G (T.setTop (mkF m pc Ls (v :: S))) := by
  subst hp; exact own_go (fun _ => XS.astore X.1.here X.2.1 rfl (hb X.2.2.2.1 hd) rfl hr hl) k
theorem own_iconst (X : own_A l Z own cb ml n0 p e R s m args below meth c T h locs cells slots) {i : Int} {z : Int32} (hd : decode cb pc = .ok (.iconst i, 1)) (hp : pc + 1 = pc') (hz : Int32.ofInt i = z) (k : own_E p e below G (T.setTop (mkF m pc' Ls (.int z :: S)))) : own_E p e below G (T.setTop (mkF m pc Ls S)) := by
  subst hp; subst hz; exact own_go (fun _ => XS.iconst X.1.here X.2.1 rfl (hb X.2.2.2.1 hd)) k
theorem own_bipush (X : own_A l Z own cb ml n0 p e R s m args below meth c T h locs cells slots) {i : Int} {z : Int32} (hd : decode cb pc = .ok (.bipush i, 2)) (hp : pc + 2 = pc') (hz : (Int8.ofInt i).toInt32 = z) (k : own_E p e below G (T.setTop (mkF m pc' Ls (.int z :: S)))) : own_E p e below G (T.setTop (mkF m pc Ls S)) := by
  subst hp; subst hz; exact own_go (fun _ => XS.bipush X.1.here X.2.1 rfl (hb X.2.2.2.1 hd)) k
theorem own_sipush (X : own_A l Z own cb ml n0 p e R s m args below meth c T h locs cells slots) {i : Int} {z : Int32} (hd : decode cb pc = .ok (.sipush i, 3)) (hp : pc + 3 = pc') (hz : (Int16.ofInt i).toInt32 = z) (k : own_E p e below G (T.setTop (mkF m pc' Ls (.int z :: S)))) : own_E p e below G (T.setTop (mkF m pc Ls S)) := by
  subst hp; subst hz; exact own_go (fun _ => XS.sipush X.1.here X.2.1 rfl (hb X.2.2.2.1 hd)) k
theorem own_lconst (X : own_A l Z own cb ml n0 p e R s m args below meth c T h locs cells slots) {i : Fin 2} {z : Int64} (hd : decode cb pc = .ok (.lconst i, 1)) (hp : pc + 1 = pc') (hz : Int64.ofNat i = z) (k : own_E p e below G (T.setTop (mkF m pc' Ls (.long z :: S)))) : own_E p e below G (T.setTop (mkF m pc Ls S)) := by
  subst hp; subst hz; exact own_go (fun _ => XS.lconst X.1.here X.2.1 rfl (hb X.2.2.2.1 hd)) k
theorem own_anull (X : own_A l Z own cb ml n0 p e R s m args below meth c T h locs cells slots)  (hd : decode cb pc = .ok (.aconst_null, 1)) (hp : pc + 1 = pc') (k : own_E p e below G (T.setTop (mkF m pc' Ls (.null :: S)))) : own_E p e below G (T.setTop (mkF m pc Ls S)) := by
  subst hp; exact own_go (fun _ => XS.aconstNull X.1.here X.2.1 rfl (hb X.2.2.2.1 hd)) k
theorem own_iadd (X : own_A l Z own cb ml n0 p e R s m args below meth c T h locs cells slots) {x y z : Int32} (hd : decode cb pc = .ok (.iadd, 1)) (hp : pc + 1 = pc') (hz : x + y = z) (k : own_E p e below G (T.setTop (mkF m pc' Ls (.int z :: S)))) : own_E p e below G (T.setTop (mkF m pc Ls (.int y :: .int x :: S))) := by
  subst hp; subst hz; exact own_go (fun _ => XS.iadd X.1.here X.2.1 rfl (hb X.2.2.2.1 hd) rfl) k
theorem own_isub (X : own_A l Z own cb ml n0 p e R s m args below meth c T h locs cells slots) {x y z : Int32} (hd : decode cb pc = .ok (.isub, 1)) (hp : pc + 1 = pc') (hz : x - y = z) (k : own_E p e below G (T.setTop (mkF m pc' Ls (.int z :: S)))) : own_E p e below G (T.setTop (mkF m pc Ls (.int y :: .int x :: S))) := by
  subst hp; subst hz; exact own_go (fun _ => XS.isub X.1.here X.2.1 rfl (hb X.2.2.2.1 hd) rfl) k
theorem own_imul (X : own_A l Z own cb ml n0 p e R s m args below meth c T h locs cells slots) {x y z : Int32} (hd : decode cb pc = .ok (.imul, 1)) (hp : pc + 1 = pc') (hz : x * y = z) (k : own_E p e below G (T.setTop (mkF m pc' Ls (.int z :: S)))) : own_E p e below G (T.setTop (mkF m pc Ls (.int y :: .int x :: S))) := by
  subst hp; subst hz; exact own_go (fun _ => XS.imul X.1.here X.2.1 rfl (hb X.2.2.2.1 hd) rfl) k
theorem own_iand (X : own_A l Z own cb ml n0 p e R s m args below meth c T h locs cells slots) {x y z : Int32} (hd : decode cb pc = .ok (.iand, 1)) (hp : pc + 1 = pc') (hz : x &&& y = z) (k : own_E p e below G (T.setTop (mkF m pc' Ls (.int z :: S)))) : own_E p e below G (T.setTop (mkF m pc Ls (.int y :: .int x :: S))) := by
  subst hp; subst hz; exact own_go (fun _ => XS.iand X.1.here X.2.1 rfl (hb X.2.2.2.1 hd) rfl) k
theorem own_ior (X : own_A l Z own cb ml n0 p e R s m args below meth c T h locs cells slots) {x y z : Int32} (hd : decode cb pc = .ok (.ior, 1)) (hp : pc + 1 = pc') (hz : x ||| y = z) (k : own_E p e below G (T.setTop (mkF m pc' Ls (.int z :: S)))) : own_E p e below G (T.setTop (mkF m pc Ls (.int y :: .int x :: S))) := by
  subst hp; subst hz; exact own_go (fun _ => XS.ior X.1.here X.2.1 rfl (hb X.2.2.2.1 hd) rfl) k
theorem own_ixor (X : own_A l Z own cb ml n0 p e R s m args below meth c T h locs cells slots) {x y z : Int32} (hd : decode cb pc = .ok (.ixor, 1)) (hp : pc + 1 = pc') (hz : x ^^^ y = z) (k : own_E p e below G (T.setTop (mkF m pc' Ls (.int z :: S)))) : own_E p e below G (T.setTop (mkF m pc Ls (.int y :: .int x :: S))) := by
  subst hp; subst hz; exact own_go (fun _ => XS.ixor X.1.here X.2.1 rfl (hb X.2.2.2.1 hd) rfl) k
theorem own_ishl (X : own_A l Z own cb ml n0 p e R s m args below meth c T h locs cells slots) {x y z : Int32} (hd : decode cb pc = .ok (.ishl, 1)) (hp : pc + 1 = pc') (hz : x <<< (y &&& 31) = z) (k : own_E p e below G (T.setTop (mkF m pc' Ls (.int z :: S)))) : own_E p e below G (T.setTop (mkF m pc Ls (.int y :: .int x :: S))) := by
  subst hp; subst hz; exact own_go (fun _ => XS.ishl X.1.here X.2.1 rfl (hb X.2.2.2.1 hd) rfl) k
theorem own_ishr (X : own_A l Z own cb ml n0 p e R s m args below meth c T h locs cells slots) {x y z : Int32} (hd : decode cb pc = .ok (.ishr, 1)) (hp : pc + 1 = pc') (hz : x >>> (y &&& 31) = z) (k : own_E p e below G (T.setTop (mkF m pc' Ls (.int z :: S)))) : own_E p e below G (T.setTop (mkF m pc Ls (.int y :: .int x :: S))) := by
  subst hp; subst hz; exact own_go (fun _ => XS.ishr X.1.here X.2.1 rfl (hb X.2.2.2.1 hd) rfl) k
theorem own_iushr (X : own_A l Z own cb ml n0 p e R s m args below meth c T h locs cells slots) {x y z : Int32} (hd : decode cb pc = .ok (.iushr, 1)) (hp : pc + 1 = pc') (hz : (x.toUInt32 >>> (y &&& 31).toUInt32).toInt32 = z) (k : own_E p e below G (T.setTop (mkF m pc' Ls (.int z :: S)))) : own_E p e below G (T.setTop (mkF m pc Ls (.int y :: .int x :: S))) := by
  subst hp; subst hz; exact own_go (fun _ => XS.iushr X.1.here X.2.1 rfl (hb X.2.2.2.1 hd) rfl) k
theorem own_ladd (X : own_A l Z own cb ml n0 p e R s m args below meth c T h locs cells slots) {x y z : Int64} (hd : decode cb pc = .ok (.ladd, 1)) (hp : pc + 1 = pc') (hz : x + y = z) (k : own_E p e below G (T.setTop (mkF m pc' Ls (.long z :: S)))) : own_E p e below G (T.setTop (mkF m pc Ls (.long y :: .long x :: S))) := by
  subst hp; subst hz; exact own_go (fun _ => XS.ladd X.1.here X.2.1 rfl (hb X.2.2.2.1 hd) rfl) k
theorem own_lsub (X : own_A l Z own cb ml n0 p e R s m args below meth c T h locs cells slots) {x y z : Int64} (hd : decode cb pc = .ok (.lsub, 1)) (hp : pc + 1 = pc') (hz : x - y = z) (k : own_E p e below G (T.setTop (mkF m pc' Ls (.long z :: S)))) : own_E p e below G (T.setTop (mkF m pc Ls (.long y :: .long x :: S))) := by
  subst hp; subst hz; exact own_go (fun _ => XS.lsub X.1.here X.2.1 rfl (hb X.2.2.2.1 hd) rfl) k
theorem own_lmul (X : own_A l Z own cb ml n0 p e R s m args below meth c T h locs cells slots) {x y z : Int64} (hd : decode cb pc = .ok (.lmul, 1)) (hp : pc + 1 = pc') (hz : x * y = z) (k : own_E p e below G (T.setTop (mkF m pc' Ls (.long z :: S)))) : own_E p e below G (T.setTop (mkF m pc Ls (.long y :: .long x :: S))) := by
  subst hp; subst hz; exact own_go (fun _ => XS.lmul X.1.here X.2.1 rfl (hb X.2.2.2.1 hd) rfl) k
theorem own_land (X : own_A l Z own cb ml n0 p e R s m args below meth c T h locs cells slots) {x y z : Int64} (hd : decode cb pc = .ok (.land, 1)) (hp : pc + 1 = pc') (hz : x &&& y = z) (k : own_E p e below G (T.setTop (mkF m pc' Ls (.long z :: S)))) : own_E p e below G (T.setTop (mkF m pc Ls (.long y :: .long x :: S))) := by
  subst hp; subst hz; exact own_go (fun _ => XS.land X.1.here X.2.1 rfl (hb X.2.2.2.1 hd) rfl) k
theorem own_lor (X : own_A l Z own cb ml n0 p e R s m args below meth c T h locs cells slots) {x y z : Int64} (hd : decode cb pc = .ok (.lor, 1)) (hp : pc + 1 = pc') (hz : x ||| y = z) (k : own_E p e below G (T.setTop (mkF m pc' Ls (.long z :: S)))) : own_E p e below G (T.setTop (mkF m pc Ls (.long y :: .long x :: S))) := by
  subst hp; subst hz; exact own_go (fun _ => XS.lor X.1.here X.2.1 rfl (hb X.2.2.2.1 hd) rfl) k
theorem own_lxor (X : own_A l Z own cb ml n0 p e R s m args below meth c T h locs cells slots) {x y z : Int64} (hd : decode cb pc = .ok (.lxor, 1)) (hp : pc + 1 = pc') (hz : x ^^^ y = z) (k : own_E p e below G (T.setTop (mkF m pc' Ls (.long z :: S)))) : own_E p e below G (T.setTop (mkF m pc Ls (.long y :: .long x :: S))) := by
  subst hp; subst hz; exact own_go (fun _ => XS.lxor X.1.here X.2.1 rfl (hb X.2.2.2.1 hd) rfl) k
theorem own_lshl (X : own_A l Z own cb ml n0 p e R s m args below meth c T h locs cells slots) {x z : Int64} {y : Int32} (hd : decode cb pc = .ok (.lshl, 1)) (hp : pc + 1 = pc') (hz : x <<< (y &&& 0x3f).toInt64 = z) (k : own_E p e below G (T.setTop (mkF m pc' Ls (.long z :: S)))) : own_E p e below G (T.setTop (mkF m pc Ls (.int y :: .long x :: S))) := by
  subst hp; subst hz; exact own_go (fun _ => XS.lshl X.1.here X.2.1 rfl (hb X.2.2.2.1 hd) rfl) k
theorem own_lshr (X : own_A l Z own cb ml n0 p e R s m args below meth c T h locs cells slots) {x z : Int64} {y : Int32} (hd : decode cb pc = .ok (.lshr, 1)) (hp : pc + 1 = pc') (hz : x >>> (y &&& 0x3f).toInt64 = z) (k : own_E p e below G (T.setTop (mkF m pc' Ls (.long z :: S)))) : own_E p e below G (T.setTop (mkF m pc Ls (.int y :: .long x :: S))) := by
  subst hp; subst hz; exact own_go (fun _ => XS.lshr X.1.here X.2.1 rfl (hb X.2.2.2.1 hd) rfl) k
theorem own_lushr (X : own_A l Z own cb ml n0 p e R s m args below meth c T h locs cells slots) {x z : Int64} {y : Int32} (hd : decode cb pc = .ok (.lushr, 1)) (hp : pc + 1 = pc') (hz : (x.toUInt64 >>> (y &&& 0x3f).toInt64.toUInt64).toInt64 = z) (k : own_E p e below G (T.setTop (mkF m pc' Ls (.long z :: S)))) : own_E p e below G (T.setTop (mkF m pc Ls (.int y :: .long x :: S))) := by
  subst hp; subst hz; exact own_go (fun _ => XS.lushr X.1.here X.2.1 rfl (hb X.2.2.2.1 hd) rfl) k
theorem own_idiv (X : own_A l Z own cb ml n0 p e R s m args below meth c T h locs cells slots) {x y z : Int32} (hd : decode cb pc = .ok (.idiv, 1)) (hp : pc + 1 = pc') (hy : y ≠ 0) (hz : x / y = z) (k : own_E p e below G (T.setTop (mkF m pc' Ls (.int z :: S)))) : own_E p e below G (T.setTop (mkF m pc Ls (.int y :: .int x :: S))) := by
  subst hp; subst hz; exact own_go (fun _ => XS.idiv X.1.here X.2.1 rfl (hb X.2.2.2.1 hd) rfl hy) k
theorem own_irem (X : own_A l Z own cb ml n0 p e R s m args below meth c T h locs cells slots) {x y z : Int32} (hd : decode cb pc = .ok (.irem, 1)) (hp : pc + 1 = pc') (hy : y ≠ 0) (hz : x % y = z) (k : own_E p e below G (T.setTop (mkF m pc' Ls (.int z :: S)))) : own_E p e below G (T.setTop (mkF m pc Ls (.int y :: .int x :: S))) := by
  subst hp; subst hz; exact own_go (fun _ => iremM X.1 X.2.1 rfl (hb X.2.2.2.1 hd) rfl hy) k
theorem own_ldiv (X : own_A l Z own cb ml n0 p e R s m args below meth c T h locs cells slots) {x y z : Int64} (hd : decode cb pc = .ok (.ldiv, 1)) (hp : pc + 1 = pc') (hy : y ≠ 0) (hz : x / y = z) (k : own_E p e below G (T.setTop (mkF m pc' Ls (.long z :: S)))) : own_E p e below G (T.setTop (mkF m pc Ls (.long y :: .long x :: S))) := by
  subst hp; subst hz; exact own_go (fun _ => XS.ldiv X.1.here X.2.1 rfl (hb X.2.2.2.1 hd) rfl hy) k
theorem own_lrem (X : own_A l Z own cb ml n0 p e R s m args below meth c T h locs cells slots) {x y z : Int64} (hd : decode cb pc = .ok (.lrem, 1)) (hp : pc + 1 = pc') (hy : y ≠ 0) (hz : x - (x / y) * y = z) (k : own_E p e below G (T.setTop (mkF m pc' Ls (.long z :: S)))) : own_E p e below G (T.setTop (mkF m pc Ls (.long y :: .long x :: S))) := by
  subst hp; subst hz; exact own_go (fun _ => XS.lrem X.1.here X.2.1 rfl (hb X.2.2.2.1 hd) rfl hy) k
theorem own_ineg (X : own_A l Z own cb ml n0 p e R s m args below meth c T h locs cells slots) {x : Int32} {z : Int32} (hd : decode cb pc = .ok (.ineg, 1)) (hp : pc + 1 = pc') (hz : -x = z) (k : own_E p e below G (T.setTop (mkF m pc' Ls (.int z :: S)))) : own_E p e below G (T.setTop (mkF m pc Ls (.int x :: S))) := by
  subst hp; subst hz; exact own_go (fun _ => XS.ineg X.1.here X.2.1 rfl (hb X.2.2.2.1 hd) rfl) k
theorem own_lneg (X : own_A l Z own cb ml n0 p e R s m args below meth c T h locs cells slots) {x : Int64} {z : Int64} (hd : decode cb pc = .ok (.lneg, 1)) (hp : pc + 1 = pc') (hz : -x = z) (k : own_E p e below G (T.setTop (mkF m pc' Ls (.long z :: S)))) : own_E p e below G (T.setTop (mkF m pc Ls (.long x :: S))) := by
  subst hp; subst hz; exact own_go (fun _ => XS.lneg X.1.here X.2.1 rfl (hb X.2.2.2.1 hd) rfl) k
theorem own_i2l (X : own_A l Z own cb ml n0 p e R s m args below meth c T h locs cells slots) {x : Int32} {z : Int64} (hd : decode cb pc = .ok (.i2l, 1)) (hp : pc + 1 = pc') (hz : x.toInt64 = z) (k : own_E p e below G (T.setTop (mkF m pc' Ls (.long z :: S)))) : own_E p e below G (T.setTop (mkF m pc Ls (.int x :: S))) := by
  subst hp; subst hz; exact own_go (fun _ => XS.i2l X.1.here X.2.1 rfl (hb X.2.2.2.1 hd) rfl) k
theorem own_l2i (X : own_A l Z own cb ml n0 p e R s m args below meth c T h locs cells slots) {x : Int64} {z : Int32} (hd : decode cb pc = .ok (.l2i, 1)) (hp : pc + 1 = pc') (hz : x.toInt32 = z) (k : own_E p e below G (T.setTop (mkF m pc' Ls (.int z :: S)))) : own_E p e below G (T.setTop (mkF m pc Ls (.long x :: S))) := by
  subst hp; subst hz; exact own_go (fun _ => XS.l2i X.1.here X.2.1 rfl (hb X.2.2.2.1 hd) rfl) k
theorem own_i2b (X : own_A l Z own cb ml n0 p e R s m args below meth c T h locs cells slots) {x : Int32} {z : Int32} (hd : decode cb pc = .ok (.i2b, 1)) (hp : pc + 1 = pc') (hz : x.toInt8.toInt32 = z) (k : own_E p e below G (T.setTop (mkF m pc' Ls (.int z :: S)))) : own_E p e below G (T.setTop (mkF m pc Ls (.int x :: S))) := by
  subst hp; subst hz; exact own_go (fun _ => XS.i2b X.1.here X.2.1 rfl (hb X.2.2.2.1 hd) rfl) k
theorem own_i2s (X : own_A l Z own cb ml n0 p e R s m args below meth c T h locs cells slots) {x : Int32} {z : Int32} (hd : decode cb pc = .ok (.i2s, 1)) (hp : pc + 1 = pc') (hz : x.toInt16.toInt32 = z) (k : own_E p e below G (T.setTop (mkF m pc' Ls (.int z :: S)))) : own_E p e below G (T.setTop (mkF m pc Ls (.int x :: S))) := by
  subst hp; subst hz; exact own_go (fun _ => XS.i2s X.1.here X.2.1 rfl (hb X.2.2.2.1 hd) rfl) k
theorem own_i2c (X : own_A l Z own cb ml n0 p e R s m args below meth c T h locs cells slots) {x : Int32} {z : Int32} (hd : decode cb pc = .ok (.i2c, 1)) (hp : pc + 1 = pc') (hz : x.toUInt32.toUInt16.toUInt32.toInt32 = z) (k : own_E p e below G (T.setTop (mkF m pc' Ls (.int z :: S)))) : own_E p e below G (T.setTop (mkF m pc Ls (.int x :: S))) := by
  subst hp; subst hz; exact own_go (fun _ => XS.i2c X.1.here X.2.1 rfl (hb X.2.2.2.1 hd) rfl) k
theorem own_iinc (X : own_A l Z own cb ml n0 p e R s m args below meth c T h locs cells slots) {i : Nat} {cst : Int} {x z : Int32} (hd : decode cb pc = .ok (.iinc i cst, 3)) (hp : pc + 3 = pc') (hl : Ls[i]? = some (.val (.int x))) (hz : x + Int32.ofInt cst = z) (hl' : storeLocals Ls i (.int z) = some Ls') (k : own_E p e below G (T.setTop (mkF m pc' Ls' S))) : own_E p e below G (T.setTop (mkF m pc Ls S)) := by
  subst hp; subst hz; exact own_go (fun _ => XS.iinc X.1.here X.2.1 rfl (hb X.2.2.2.1 hd) hl hl') k
theorem own_dup (X : own_A l Z own cb ml n0 p e R s m args below meth c T h locs cells slots) {v : Value} (hd : decode cb pc = .ok (.dup, 1)) (hp : pc + 1 = pc') (hc : v.category = 1) (k : own_E p e below G (T.setTop (mkF m pc' Ls (v :: v :: S)))) : own_E p e below G (T.setTop (mkF m pc Ls (v :: S))) := by
  subst hp; exact own_go (fun _ => XS.dup X.1.here X.2.1 rfl (hb X.2.2.2.1 hd) rfl hc) k
theorem own_pop (X : own_A l Z own cb ml n0 p e R s m args below meth c T h locs cells slots) {v : Value} (hd : decode cb pc = .ok (.pop, 1)) (hp : pc + 1 = pc') (hc : v.category = 1) (k : own_E p e below G (T.setTop (mkF m pc' Ls S))) : own_E p e below G (T.setTop (mkF m pc Ls (v :: S))) := by
  subst hp; exact own_go (fun _ => XS.pop X.1.here X.2.1 rfl (hb X.2.2.2.1 hd) rfl hc) k
theorem own_goto (X : own_A l Z own cb ml n0 p e R s m args below meth c T h locs cells slots) {o : Int} (hd : decode cb pc = .ok (.goto o, 3)) (ho : 0 ≤ (pc : Int) + o) (hp : ((pc : Int) + o).toNat = pc') (k : own_E p e below G (T.setTop (mkF m pc' Ls S))) : own_E p e below G (T.setTop (mkF m pc Ls S)) :=
  own_go (fun _ => XS.goto X.1.here X.2.1 rfl rfl (hb X.2.2.2.1 hd) ho hp) k
theorem own_icmpY (X : own_A l Z own cb ml n0 p e R s m args below meth c T h locs cells slots) {cd : ClassFile.Cond} {o : Int} {x y : Int32} (hd : decode cb pc = .ok (.if_icmp cd o, 3)) (hc : if_icmp.holds cd x y = true) (ho : 0 ≤ (pc : Int) + o) (hp : ((pc : Int) + o).toNat = pc') (k : own_E p e below G (T.setTop (mkF m pc' Ls S))) : own_E p e below G (T.setTop (mkF m pc Ls (.int y :: .int x :: S))) :=
  own_go (fun _ => XS.icmpYes X.1.here X.2.1 rfl rfl (hb X.2.2.2.1 hd) rfl hc ho hp) k
theorem own_icmpN (X : own_A l Z own cb ml n0 p e R s m args below meth c T h locs cells slots) {cd : ClassFile.Cond} {o : Int} {x y : Int32} (hd : decode cb pc = .ok (.if_icmp cd o, 3)) (hc : if_icmp.holds cd x y = false) (hp : pc + 3 = pc') (k : own_E p e below G (T.setTop (mkF m pc' Ls S))) : own_E p e below G (T.setTop (mkF m pc Ls (.int y :: .int x :: S))) := by
  subst hp; exact own_go (fun _ => XS.icmpNo X.1.here X.2.1 rfl (hb X.2.2.2.1 hd) rfl hc) k
theorem own_ifY (X : own_A l Z own cb ml n0 p e R s m args below meth c T h locs cells slots) {cd : ClassFile.Cond} {o : Int} {x : Int32} (hd : decode cb pc = .ok (.ifCond cd o, 3)) (hc : if_icmp.holds cd x 0 = true) (ho : 0 ≤ (pc : Int) + o) (hp : ((pc : Int) + o).toNat = pc') (k : own_E p e below G (T.setTop (mkF m pc' Ls S))) : own_E p e below G (T.setTop (mkF m pc Ls (.int x :: S))) :=
  own_go (fun _ => XS.ifYes X.1.here X.2.1 rfl rfl (hb X.2.2.2.1 hd) rfl ((if0 _ _).trans hc) ho hp) k
theorem own_ifN (X : own_A l Z own cb ml n0 p e R s m args below meth c T h locs cells slots) {cd : ClassFile.Cond} {o : Int} {x : Int32} (hd : decode cb pc = .ok (.ifCond cd o, 3)) (hc : if_icmp.holds cd x 0 = false) (hp : pc + 3 = pc') (k : own_E p e below G (T.setTop (mkF m pc' Ls S))) : own_E p e below G (T.setTop (mkF m pc Ls (.int x :: S))) := by
  subst hp; exact own_go (fun _ => XS.ifNo X.1.here X.2.1 rfl (hb X.2.2.2.1 hd) rfl ((if0 _ _).trans hc)) k
theorem own_ljY (X : own_A l Z own cb ml n0 p e R s m args below meth c T h locs cells slots) {cd : ClassFile.Cond} {o : Int} {x y : Int64} {pc1 : Nat} (hd1 : decode cb pc = .ok (.lcmp, 1)) (h1 : pc + 1 = pc1) (hd : decode cb pc1 = .ok (.ifCond cd o, 3)) (hc : if_icmp.holds cd (lcmpW x y) 0 = true) (ho : 0 ≤ (pc1 : Int) + o) (hp : ((pc1 : Int) + o).toNat = pc') (k : own_E p e below G (T.setTop (mkF m pc' Ls S))) : own_E p e below G (T.setTop (mkF m pc Ls (.long y :: .long x :: S))) := by
  subst h1
  exact own_go (fun _ k => XS.lcmp X.1.here X.2.1 rfl (hb X.2.2.2.1 hd1) rfl (XS.ifYes X.1.here X.2.1 rfl rfl (hb X.2.2.2.1 hd) rfl ((if0 _ _).trans hc) ho hp k)) k
theorem own_ljN (X : own_A l Z own cb ml n0 p e R s m args below meth c T h locs cells slots) {cd : ClassFile.Cond} {o : Int} {x y : Int64} {pc1 : Nat} (hd1 : decode cb pc = .ok (.lcmp, 1)) (h1 : pc + 1 = pc1) (hd : decode cb pc1 = .ok (.ifCond cd o, 3)) (hc : if_icmp.holds cd (lcmpW x y) 0 = false) (hp : pc1 + 3 = pc') (k : own_E p e below G (T.setTop (mkF m pc' Ls S))) : own_E p e below G (T.setTop (mkF m pc Ls (.long y :: .long x :: S))) := by
  subst h1; subst hp
  exact own_go (fun _ k => XS.lcmp X.1.here X.2.1 rfl (hb X.2.2.2.1 hd1) rfl (XS.ifNo X.1.here X.2.1 rfl (hb X.2.2.2.1 hd) rfl ((if0 _ _).trans hc) k)) k
theorem own_tltL {x y : Int64} (q : x < y) : if_icmp.holds .lt (lcmpW x y) 0 = true ∧ if_icmp.holds .ge (lcmpW x y) 0 = false ∧ if_icmp.holds .gt (lcmpW y x) 0 = true ∧ if_icmp.holds .le (lcmpW y x) 0 = false :=
  ⟨(tlt ((lw_lt x y).mpr q)).1, (tlt ((lw_lt x y).mpr q)).2.1, (tlt ((lw_gt y x).mpr q)).2.2.1, (tlt ((lw_gt y x).mpr q)).2.2.2⟩
theorem own_fltL {x y : Int64} (q : ¬ x < y) : if_icmp.holds .lt (lcmpW x y) 0 = false ∧ if_icmp.holds .ge (lcmpW x y) 0 = true ∧ if_icmp.holds .gt (lcmpW y x) 0 = false ∧ if_icmp.holds .le (lcmpW y x) 0 = true :=
  ⟨(flt (fun z => q ((lw_lt x y).mp z))).1, (flt (fun z => q ((lw_lt x y).mp z))).2.1, (flt (fun z => q ((lw_gt y x).mp z))).2.2.1, (flt (fun z => q ((lw_gt y x).mp z))).2.2.2⟩
theorem own_teqL {x y : Int64} (q : x = y) : if_icmp.holds .eq (lcmpW x y) 0 = true ∧ if_icmp.holds .ne (lcmpW x y) 0 = false := teq ((lw_eq x y).mpr q)
theorem own_feqL {x y : Int64} (q : ¬ x = y) : if_icmp.holds .eq (lcmpW x y) 0 = false ∧ if_icmp.holds .ne (lcmpW x y) 0 = true := feq (fun z => q ((lw_eq x y).mp z))
theorem own_ifnullY (X : own_A l Z own cb ml n0 p e R s m args below meth c T h locs cells slots) {o : Int} (hd : decode cb pc = .ok (.ifnull o, 3)) (ho : 0 ≤ (pc : Int) + o) (hp : ((pc : Int) + o).toNat = pc') (k : own_E p e below G (T.setTop (mkF m pc' Ls S))) : own_E p e below G (T.setTop (mkF m pc Ls (.null :: S))) :=
  own_go (fun _ => XS.ifnullYes X.1.here X.2.1 rfl rfl (hb X.2.2.2.1 hd) rfl ho hp) k
theorem own_ifnullN (X : own_A l Z own cb ml n0 p e R s m args below meth c T h locs cells slots) {o : Int} {b : Addr} (hd : decode cb pc = .ok (.ifnull o, 3)) (hp : pc + 3 = pc') (k : own_E p e below G (T.setTop (mkF m pc' Ls S))) : own_E p e below G (T.setTop (mkF m pc Ls (.ref b :: S))) := by
  subst hp; exact own_go (fun _ => XS.ifnullNo X.1.here X.2.1 rfl (hb X.2.2.2.1 hd) rfl) k
theorem own_ldc (X : own_A l Z own cb ml n0 p e R s m args below meth c T h locs cells slots) {i : Nat} {v : Int32} (w : (Jvm.Cond.constant own i v).before a0 Z = true) (hd : decode cb pc = .ok (.ldc i, 2)) (hp : pc + 2 = pc') (k : own_E p e below G (T.setTop (mkF m pc' Ls (.int v :: S)))) : own_E p e below G (T.setTop (mkF m pc Ls S)) := by
  subst hp; exact own_go (X.1.ldcInt X.2.1 X.2.2.2.2.2.1 (mvT X.2.2.1 w) rfl (hb X.2.2.2.1 hd)) k
theorem own_ldc2 (X : own_A l Z own cb ml n0 p e R s m args below meth c T h locs cells slots) {i : Nat} {v : Int64} (w : (Jvm.Cond.constantLong own i v).before a0 Z = true) (hd : decode cb pc = .ok (.ldc2_w i, 3)) (hp : pc + 3 = pc') (k : own_E p e below G (T.setTop (mkF m pc' Ls (.long v :: S)))) : own_E p e below G (T.setTop (mkF m pc Ls S)) := by
  subst hp; exact own_go (X.1.ldc2Long X.2.1 X.2.2.2.2.2.1 (mvT X.2.2.1 w) rfl (hb X.2.2.2.1 hd)) k
theorem own_callS (X : own_A l Z own cb ml n0 p e R s m args below meth c T h locs cells slots) {y : MethodName} {cb' : ByteArray} {ml' : Nat} {ret' : Option FieldType} {rm : Room} {argsL st : List Value} {Q : Option Value → Heap → Prop} {i : Nat} (hC : own_Con l Z y cb' ml' ret' rm argsL.toArray h n0 Q)
    (w1 : (Jvm.Cond.methodLink own i y).before a0 Z = true) (w2 : (Jvm.Cond.static y).before a0 Z = true) (w3 : (Jvm.Cond.initialized y.cls).before a0 Z = true) (w4 : (Jvm.Cond.code y cb' ml' ret').before a0 Z = true) (hy : y.cls ≠ "java/lang/invoke/MethodHandle" ∧ y.cls ≠ "java/lang/invoke/VarHandle")
    (hf : rm.frames + 1 ≤ R.frames) (W : Nat) (hl : W + (ml' + 11) + rm.locals ≤ R.locals) (hls : Ls.size = ml) {ps : List FieldType} {r : Option FieldType} (hpd : parseMethodDescriptor y.desc = some ⟨ps, r⟩) (hlen : argsL.length = ps.length) (hst : st = argsL.reverse ++ S) (hW : (S.map fun v => v.category).sum ≤ W) (hcl : cells + rm.cells ≤ R.cells) (hsl : slots + rm.slots ≤ R.slots)
    (hd : decode cb pc = .ok (.invokestatic i, 3)) (hp : pc + 3 = pc') (k : ∀ T' h' locs' v, own_A l Z own cb ml n0 p e R s m args below meth c T' h' locs' (cells + rm.cells) (slots + rm.slots) → Q v h' → own_E p e below G (T'.setTop (mkF m pc' Ls (v.toList ++ S)))) : own_E p e below G (T.setTop (mkF m pc Ls st)) := by
  obtain ⟨X, hx, hZ, hby, hml, hown, eT, N, hsz, hlk⟩ := X
  subst hp
  obtain ⟨v, _, ⟨T', L', k', n'⟩, -, X', ⟨Lc, hQ, q1, q2, q3⟩, stp⟩ := Jvm.LawKit.callS X hx (y := y) hown (mvT hZ w1) (mvT hZ w2) (mvT hZ w3) (mvT hZ w4) hy (backOf (Q := fun v h L => Q v h ∧ Fr n0 L ∧ n0 ≤ h.size) (W := W) (hC []) hZ w4 w3 hf hl) (g := mkF m pc Ls st) rfl (by rw [hml]; exact hls) (argsL := argsL) (rest := S) (lenOf hpd hlen) hst (by show 2 * 0 + _ ≤ _; omega) (hb hby hd) (fun _ _ => ⟨rfl, eT, hcl, hsl⟩)
  dsimp only [Pt.U, Pt.locs, Pt.cells, Pt.slots] at X' q1 q2 q3 stp hQ
  subst q1 q2 q3
  exact own_go stp (k _ _ _ _ ⟨X', hx, hZ, hby, hml, hown, rfl, N.app hQ.2.1, hQ.2.2, hlk⟩ hQ.1)
theorem own_callI (X : own_A l Z own cb ml n0 p e R s m args below meth c T h locs cells slots) {y : MethodName} {cb' : ByteArray} {ml' : Nat} {rm : Room} {a : Addr} {argsL st : List Value} {Q : Option Value → Heap → Prop} {i : Nat} (hC : own_Con l Z y cb' ml' none rm (.ref a :: argsL).toArray h n0 Q) (hy1 : y.name = "<init>")
    (w1 : (Jvm.Cond.methodLink own i y).before a0 Z = true) (w2 : (Jvm.Cond.instanceMethod y).before a0 Z = true) (w3 : (Jvm.Cond.initialized y.cls).before a0 Z = true) (w4 : (Jvm.Cond.code y cb' ml' none).before a0 Z = true) (hy : y.cls ≠ "java/lang/invoke/MethodHandle" ∧ y.cls ≠ "java/lang/invoke/VarHandle")
    (hf : rm.frames + 1 ≤ R.frames) (W : Nat) (hl : W + (ml' + 11) + rm.locals ≤ R.locals) (hls : Ls.size = ml) {ps : List FieldType} {r : Option FieldType} (hpd : parseMethodDescriptor y.desc = some ⟨ps, r⟩) (hlen : argsL.length = ps.length) (hst : st = argsL.reverse ++ .ref a :: S) (hW : (S.map fun v => v.category).sum ≤ W) (hcl : cells + rm.cells ≤ R.cells) (hsl : slots + rm.slots ≤ R.slots)
    (hd : decode cb pc = .ok (.invokespecial i, 3)) (hp : pc + 3 = pc') (k : ∀ T' h' locs' v, own_A l Z own cb ml n0 p e R s m args below meth c T' h' locs' (cells + rm.cells) (slots + rm.slots) → Q v h' → own_E p e below G (T'.setTop (mkF m pc' Ls (v.toList ++ S)))) : own_E p e below G (T.setTop (mkF m pc Ls st)) := by
  obtain ⟨X, hx, hZ, hby, hml, hown, eT, N, hsz, hlk⟩ := X
  subst hp
  obtain ⟨v, _, ⟨T', L', k', n'⟩, -, X', ⟨Lc, hQ, q1, q2, q3⟩, stp⟩ := X.specialBack hx (y := y) hy1 hown (mvT hZ w1) (mvT hZ w2) (mvT hZ w4) hy (backOf (Q := fun v h L => Q v h ∧ Fr n0 L ∧ n0 ≤ h.size) (W := W) (hC []) hZ w4 w3 hf hl) (g := mkF m pc Ls st) rfl (by rw [hml]; exact hls) (Steps.refl _) (a := a) (argsL := argsL) (rest := S) (lenOf hpd hlen) hst (by show 2 * 0 + _ ≤ _; omega) (hb hby hd) (fun _ _ => ⟨rfl, eT, hcl, hsl⟩)
  dsimp only [Pt.U, Pt.locs, Pt.cells, Pt.slots] at X' q1 q2 q3 stp hQ
  subst q1 q2 q3
  exact own_go (fun _ z => stp.trans z) (k _ _ _ _ ⟨X', hx, hZ, hby, hml, hown, rfl, N.app hQ.2.1, hQ.2.2, hlk⟩ hQ.1)
theorem own_callV (X : own_A l Z own cb ml n0 p e R s m args below meth c T h locs cells slots) {y : MethodName} {C : String} {cb' : ByteArray} {ml' : Nat} {ret' : Option FieldType} {rm : Room} {a : Addr} {argsL st : List Value} {Q : Option Value → Heap → Prop} {i : Nat} (hC : own_Con l Z y cb' ml' ret' rm (.ref a :: argsL).toArray h n0 Q) (E : Exa Z h a C)
    (w1 : (Jvm.Cond.methodLink own i y).before a0 Z = true) (w2 : (Jvm.Cond.declares y).before a0 Z = true) (w5 : (Jvm.Cond.selects C y y).before a0 Z = true) (w6 : (Jvm.Cond.instanceMethod y).before a0 Z = true) (w3 : (Jvm.Cond.initialized y.cls).before a0 Z = true) (w4 : (Jvm.Cond.code y cb' ml' ret').before a0 Z = true) (hy : y.cls ≠ "java/lang/invoke/MethodHandle" ∧ y.cls ≠ "java/lang/invoke/VarHandle")
    (hf : rm.frames + 1 ≤ R.frames) (W : Nat) (hl : W + (ml' + 11) + rm.locals ≤ R.locals) (hls : Ls.size = ml) {ps : List FieldType} {r : Option FieldType} (hpd : parseMethodDescriptor y.desc = some ⟨ps, r⟩) (hlen : argsL.length = ps.length) (hst : st = argsL.reverse ++ .ref a :: S) (hW : (S.map fun v => v.category).sum ≤ W) (hcl : cells + rm.cells ≤ R.cells) (hsl : slots + rm.slots ≤ R.slots)
    (hd : decode cb pc = .ok (.invokevirtual i, 3)) (hp : pc + 3 = pc') (hC0 : y.cls = C) (k : ∀ T' h' locs' v, own_A l Z own cb ml n0 p e R s m args below meth c T' h' locs' (cells + rm.cells) (slots + rm.slots) → Q v h' → own_E p e below G (T'.setTop (mkF m pc' Ls (v.toList ++ S)))) : own_E p e below G (T.setTop (mkF m pc Ls st)) := by
  obtain ⟨X, hx, hZ, hby, hml, hown, eT, N, hsz, hlk⟩ := X
  subst hp; subst hC0
  obtain ⟨cq, kq, qa, qb, qc⟩ := isOf hZ eT E
  obtain ⟨v, _, ⟨T', L', k', n'⟩, -, X', ⟨Lc, hQ, q1, q2, q3⟩, stp⟩ := X.virtualBack hx (y := y) (z := y) hown (mvT hZ w1) (mvT hZ w2) (notFace_of_selects (args := #[]) (mvT hZ w5)) (mvT hZ w5) (mvT hZ w6) hy (backOf (Q := fun v h L => Q v h ∧ Fr n0 L ∧ n0 ≤ h.size) (W := W) (hC []) hZ w4 w3 hf hl) qa qc (g := mkF m pc Ls st) rfl (by rw [hml]; exact hls) (Steps.refl _) (argsL := argsL) (rest := S) (lenOf hpd hlen) hst (by show 2 * 0 + _ ≤ _; omega) (hb hby hd) (fun _ _ => ⟨rfl, eT, hcl, hsl⟩)
  dsimp only [Pt.U, Pt.locs, Pt.cells, Pt.slots] at X' q1 q2 q3 stp hQ
  subst q1 q2 q3
  exact own_go (fun _ z => stp.trans z) (k _ _ _ _ ⟨X', hx, hZ, hby, hml, hown, rfl, N.app hQ.2.1, hQ.2.2, hlk⟩ hQ.1)
theorem own_initO (X : own_A l Z own cb ml n0 p e R s m args below meth c T h locs cells slots) {i : Nat} {a : Addr} (w1 : (Jvm.Cond.methodLink own i Lib.objectInit).before a0 Z = true) (w2 : (Jvm.Cond.instanceMethod Lib.objectInit).before a0 Z = true) (w3 : (Jvm.Cond.code Lib.objectInit ⟨#[0xb1]⟩ 1 none).before a0 Z = true) (hls : Ls.size = ml) (hf : 1 ≤ R.frames) (W : Nat) (hW : (S.map fun v => v.category).sum ≤ W) (hl : W + 12 ≤ R.locals)
    (hd : decode cb pc = .ok (.invokespecial i, 3)) (hp : pc + 3 = pc') (k : ∀ T', own_A l Z own cb ml n0 p e R s m args below meth c T' h locs cells slots → own_E p e below G (T'.setTop (mkF m pc' Ls S))) : own_E p e below G (T.setTop (mkF m pc Ls (.ref a :: S))) := by
  obtain ⟨X, hx, hZ, hby, hml, hown, eT, N, hsz, hlk⟩ := X
  subst hp
  obtain ⟨T', X', eT', stp⟩ := initO X hx hZ hown w1 w2 w3 eT (g := mkF m pc Ls (.ref a :: S)) rfl (by rw [hml]; exact hls) rfl (hb hby hd) hf (W := W) (by show 2 * 0 + _ ≤ _; omega) hl
  exact own_go stp (k _ ⟨X', hx, hZ, hby, hml, hown, eT', N, hsz, hlk⟩)
theorem own_getF (X : own_A l Z own cb ml n0 p e R s m args below meth c T h locs cells slots) {i : Nat} {a : Addr} {C f d : String} {v : Value} (w1 : (Jvm.Cond.fieldLink own i C f d).before a0 Z = true) (F : Fld Z h a C f d v)
    (hd : decode cb pc = .ok (.getfield i, 3)) (hp : pc + 3 = pc') (k : ∀ T', own_A l Z own cb ml n0 p e R s m args below meth c T' h locs cells slots → own_E p e below G (T'.setTop (mkF m pc' Ls (v :: S)))) : own_E p e below G (T.setTop (mkF m pc Ls (.ref a :: S))) := by
  obtain ⟨X, hx, hZ, hby, hml, hown, eT, N, hsz, hlk⟩ := X
  subst hp
  obtain ⟨T', X', eT', stp⟩ := getF X hx hZ hown (host := "") (Or.inl w1) Via.refl eT F (g := mkF m pc Ls (.ref a :: S)) rfl rfl (hb hby hd)
  exact own_go stp (k _ ⟨X', hx, hZ, hby, hml, hown, eT', N, hsz, hlk⟩)
theorem own_getS (X : own_A l Z own cb ml n0 p e R s m args below meth c T h locs cells slots) {i : Nat} {C f d : String} {v : Value} (w1 : (Jvm.Cond.fieldLink own i C f d).before a0 Z = true) (F : Sta Z h C f d v)
    (hd : decode cb pc = .ok (.getstatic i, 3)) (hp : pc + 3 = pc') (k : ∀ T', own_A l Z own cb ml n0 p e R s m args below meth c T' h locs cells slots → own_E p e below G (T'.setTop (mkF m pc' Ls (v :: S)))) : own_E p e below G (T.setTop (mkF m pc Ls S)) := by
  obtain ⟨X, hx, hZ, hby, hml, hown, eT, N, hsz, hlk⟩ := X
  subst hp
  obtain ⟨T', X', eT', stp⟩ := getS2 X hx hZ hown (host := "") (Or.inl w1) Via.refl eT F (g := mkF m pc Ls S) rfl (hb hby hd)
  exact own_go stp (k _ ⟨X', hx, hZ, hby, hml, hown, eT', N, hsz, hlk⟩)
theorem own_staK {C f d : String} {v : Value} (F : Sta Z h C f d v) (K : Keep h h' []) : Sta Z h' C f d v := by
  obtain ⟨cf, i, k, f', st, cell, h1, h2, h3, h4, h5, r⟩ := F
  exact ⟨cf, i, k, f', st, cell, h1, h2, h3, h4, K.2.1 _ _ h5 (fun q => nomatch q), r⟩
theorem own_putF (X : own_A l Z own cb ml n0 p e R s m args below meth c T h locs cells slots) {i kk : Nat} {a : Addr} {C f d : String} {v old : Value} {ty : FieldType} (w1 : (Jvm.Cond.fieldLink own i C f d).before a0 Z = true) (F : Fld Z h a C f d old) (E : Exa Z h a C) (L : (Jvm.Cond.lays C C f d).before a0 Z = true ∨ ((Jvm.Cond.laysFinal C C f d).before a0 Z = true ∧ own = C ∧ meth.name = "<init>")) (wi : (Jvm.Cond.instantiable C kk).before a0 Z = true)
    (hty : parseFieldDescriptor d = some ty) (hn : narrow ty v = v) (hft : fits ty v = true) (hg : n0 ≤ a) (hd : decode cb pc = .ok (.putfield i, 3)) (hp : pc + 3 = pc')
    (k : ∀ T' h' locs', own_A l Z own cb ml n0 p e R s m args below meth c T' h' locs' cells slots → Wr h h' a (Jvm.RoadKit.slotOf Z C f d) v → Fld Z h' a C f d v → own_E p e below G (T'.setTop (mkF m pc' Ls S))) : own_E p e below G (T.setTop (mkF m pc Ls (v :: .ref a :: S))) := by
  obtain ⟨X, hx, hZ, hby, hml, hown, eT, N, hsz, hlk⟩ := X
  subst hp
  obtain ⟨T', h', X', eT', W, stp⟩ := putF X hx hZ hown (host := "") (Or.inl w1) Via.refl eT F E L wi hty hn hft (g := mkF m pc Ls (v :: .ref a :: S)) rfl rfl (hb hby hd)
  exact own_go stp (k _ _ _ ⟨X', hx, hZ, hby, hml, hown, eT', Fr.snoc X' N hg, by rw [W.size]; exact hsz, hlk⟩ W (F.same W))
theorem own_putFN (X : own_A l Z own cb ml n0 p e R s m args below meth c T h locs cells slots) {i kk : Nat} {a : Addr} {C f d : String} {v v' old : Value} {ty : FieldType} (w1 : (Jvm.Cond.fieldLink own i C f d).before a0 Z = true) (F : Fld Z h a C f d old) (E : Exa Z h a C) (L : (Jvm.Cond.lays C C f d).before a0 Z = true ∨ ((Jvm.Cond.laysFinal C C f d).before a0 Z = true ∧ own = C ∧ meth.name = "<init>")) (wi : (Jvm.Cond.instantiable C kk).before a0 Z = true)
    (hty : parseFieldDescriptor d = some ty) (hn : narrow ty v = v') (hft : fits ty v' = true) (hg : n0 ≤ a) (hd : decode cb pc = .ok (.putfield i, 3)) (hp : pc + 3 = pc')
    (k : ∀ T' h' locs', own_A l Z own cb ml n0 p e R s m args below meth c T' h' locs' cells slots → Wr h h' a (Jvm.RoadKit.slotOf Z C f d) v' → Fld Z h' a C f d v' → own_E p e below G (T'.setTop (mkF m pc' Ls S))) : own_E p e below G (T.setTop (mkF m pc Ls (v :: .ref a :: S))) := by
  obtain ⟨X, hx, hZ, hby, hml, hown, eT, N, hsz, hlk⟩ := X
  subst hp
  obtain ⟨T', h', X', eT', W, stp⟩ := putFN X hx hZ hown w1 Via.refl eT F E L wi hty hn hft (g := mkF m pc Ls (v :: .ref a :: S)) rfl rfl (hb hby hd)
  exact own_go stp (k _ _ _ ⟨X', hx, hZ, hby, hml, hown, eT', Fr.snoc X' N hg, by rw [W.size]; exact hsz, hlk⟩ W (F.same W))
theorem own_new (X : own_A l Z own cb ml n0 p e R s m args below meth c T h locs cells slots) {i n : Nat} {C : String} (w1 : (Jvm.Cond.classLink own i C).before a0 Z = true) (w2 : (Jvm.Cond.instantiable C n).before a0 Z = true) (w3 : (Jvm.Cond.initialized C).before a0 Z = true) (hc : cells + 1 ≤ R.cells) (hs : slots + n ≤ R.slots)
    (hd : decode cb pc = .ok (.new i, 3)) (hp : pc + 3 = pc') (k : ∀ T' h' a, own_A l Z own cb ml n0 p e R s m args below meth c T' h' locs (cells + 1) (slots + n) → Ext h h' → h.size = a → n0 ≤ a → Exa Z h' a C → (∀ {O nm d : String} {ty : FieldType}, Laid Z a0 C O nm d → parseFieldDescriptor d = some ty → Fld Z h' a O nm d (defaultValue ty)) → own_E p e below G (T'.setTop (mkF m pc' Ls (.ref a :: S)))) : own_E p e below G (T.setTop (mkF m pc Ls S)) := by
  obtain ⟨X, hx, hZ, hby, hml, hown, eT, N, hsz, hlk⟩ := X
  subst hp
  obtain ⟨T', h', X', eT', E', A', D', -, stp⟩ := newO X hx hZ hown w1 w2 w3 eT (g := mkF m pc Ls S) rfl (hb hby hd) hc hs
  exact own_go stp (k _ _ _ ⟨X', hx, hZ, hby, hml, hown, eT', N, Nat.le_trans hsz E'.1, hlk⟩ E' rfl hsz A' D')
/-! arrays -/
def own_V (Z : State) (h : Heap) (a : Addr) (ty : FieldType) (z : Int32) (xs : List Int32) : Prop := ∃ k, Arv Z h a k ty z (xs.map Value.int) (.int 0) ∧ xs.length = z.toNatClampNeg
def own_W (Z : State) (h : Heap) (a : Addr) (z : Int32) (xs : List Int64) : Prop := ∃ k, Arv Z h a k .long z (xs.map Value.long) (.long 0) ∧ xs.length = z.toNatClampNeg
theorem own_V.ext {a : Addr} {ty : FieldType} {z : Int32} {xs : List Int32} (V : own_V Z h a ty z xs) (E : Ext h h') : own_V Z h' a ty z xs := by obtain ⟨k, A, q⟩ := V; exact ⟨k, A.ext E, q⟩
theorem own_W.ext {a : Addr} {z : Int32} {xs : List Int64} (V : own_W Z h a z xs) (E : Ext h h') : own_W Z h' a z xs := by obtain ⟨k, A, q⟩ := V; exact ⟨k, A.ext E, q⟩
theorem own_V.other {a b : Addr} {ty : FieldType} {z : Int32} {xs : List Int32} {sl : Nat} {v : Value} (V : own_V Z h a ty z xs) (W : Wr h h' b sl v) (q : a ≠ b) : own_V Z h' a ty z xs := by obtain ⟨k, A, r⟩ := V; exact ⟨k, A.other W q, r⟩
theorem own_W.other {a b : Addr} {z : Int32} {xs : List Int64} {sl : Nat} {v : Value} (V : own_W Z h a z xs) (W : Wr h h' b sl v) (q : a ≠ b) : own_W Z h' a z xs := by obtain ⟨k, A, r⟩ := V; exact ⟨k, A.other W q, r⟩
theorem own_V.keep {a : Addr} {ty : FieldType} {z : Int32} {xs : List Int32} {ws : List Addr} (V : own_V Z h a ty z xs) (K : Keep h h' ws) (q : a ∉ ws) : own_V Z h' a ty z xs := by obtain ⟨k, A, r⟩ := V; exact ⟨k, A.keep K q, r⟩
theorem own_W.keep {a : Addr} {z : Int32} {xs : List Int64} {ws : List Addr} (V : own_W Z h a z xs) (K : Keep h h' ws) (q : a ∉ ws) : own_W Z h' a z xs := by obtain ⟨k, A, r⟩ := V; exact ⟨k, A.keep K q, r⟩
theorem own_V.lt {a : Addr} {ty : FieldType} {z : Int32} {xs : List Int32} (V : own_V Z h a ty z xs) : a < h.size := by obtain ⟨k, A, r⟩ := V; exact A.lt
theorem own_W.lt {a : Addr} {z : Int32} {xs : List Int64} (V : own_W Z h a z xs) : a < h.size := by obtain ⟨k, A, r⟩ := V; exact A.lt
theorem own_V.len {a : Addr} {ty : FieldType} {z : Int32} {xs : List Int32} (V : own_V Z h a ty z xs) : xs.length = z.toNatClampNeg := by obtain ⟨k, A, r⟩ := V; exact r
theorem own_W.len {a : Addr} {z : Int32} {xs : List Int64} (V : own_W Z h a z xs) : xs.length = z.toNatClampNeg := by obtain ⟨k, A, r⟩ := V; exact r
theorem own_V.cast {a : Addr} {ty : FieldType} {z : Int32} {xs ys : List Int32} (V : own_V Z h a ty z xs) (q : xs = ys) : own_V Z h a ty z ys := q ▸ V
theorem own_W.cast {a : Addr} {z : Int32} {xs ys : List Int64} (V : own_W Z h a z xs) (q : xs = ys) : own_W Z h a z ys := q ▸ V
theorem own_cast (X : own_A l Z own cb ml n0 p e R s m args below meth c T h locs cells slots) {i : Nat} {a : Addr} {C : String} (w1 : (Jvm.Cond.classLink own i C).before a0 Z = true) (I : Ins Z h a C true)
    (hd : decode cb pc = .ok (.checkcast i, 3)) (hp : pc + 3 = pc') (k : ∀ T', own_A l Z own cb ml n0 p e R s m args below meth c T' h locs cells slots → own_E p e below G (T'.setTop (mkF m pc' Ls (.ref a :: S)))) : own_E p e below G (T.setTop (mkF m pc Ls (.ref a :: S))) := by
  obtain ⟨X, hx, hZ, hby, hml, hown, eT, N, hsz, hlk⟩ := X
  subst hp
  obtain ⟨T', X', eT', stp⟩ := castY X hx hZ hown w1 eT I (g := mkF m pc Ls (.ref a :: S)) rfl rfl (hb hby hd)
  exact own_go stp (k _ ⟨X', hx, hZ, hby, hml, hown, eT', N, hsz, hlk⟩)
theorem own_V.nn {a : Addr} {ty : FieldType} {z : Int32} {xs : List Int32} (V : own_V Z h a ty z xs) : ¬ z < 0 := by obtain ⟨k, ⟨cl, A, q1, q2, q3, r⟩, r'⟩ := V; exact q3
theorem own_idx {j z : Int32} {n : Nat} (q : n = z.toNatClampNeg) (h0 : ¬ j < 0) (h1 : j < z) : j.toNatClampNeg < n := by
  subst q
  rw [Int32.lt_iff_toInt_lt] at h0 h1
  have e0 : (0 : Int32).toInt = 0 := rfl
  simp only [Int32.toNatClampNeg]; omega
theorem own_mapI (xs : List Int32) (i : Nat) : (xs.map Value.int).getD i (.int 0) = .int (xs.getD i 0) := by
  simp only [List.getD_eq_getElem?_getD, List.getElem?_map]; cases xs[i]? <;> rfl
theorem own_mapL (xs : List Int64) (i : Nat) : (xs.map Value.long).getD i (.long 0) = .long (xs.getD i 0) := by
  simp only [List.getD_eq_getElem?_getD, List.getElem?_map]; cases xs[i]? <;> rfl
theorem own_newV (X : own_A l Z own cb ml n0 p e R s m args below meth c T h locs cells slots) {aty : ArrayType} {ty : FieldType} {n : Int32} (hty : newarray.typeOf aty = ty) (hdv : defaultValue ty = .int 0) (w : (Jvm.Cond.arrayClass ty).before a0 Z = true) (hn : ¬ n < 0) (cap : Nat) (hcap : n.toNatClampNeg ≤ cap) (hb8 : cap * 8 ≤ 536870912) (hc : cells + 1 ≤ R.cells) (hs : slots + cap ≤ R.slots)
    (hd : decode cb pc = .ok (.newarray aty, 2)) (hp : pc + 2 = pc') (k : ∀ T' h' a, own_A l Z own cb ml n0 p e R s m args below meth c T' h' locs (cells + 1) (slots + cap) → Ext h h' → h.size = a → n0 ≤ a → own_V Z h' a ty n (List.replicate n.toNatClampNeg 0) → own_E p e below G (T'.setTop (mkF m pc' Ls (.ref a :: S)))) : own_E p e below G (T.setTop (mkF m pc Ls (.int n :: S))) := by
  obtain ⟨X, hx, hZ, hby, hml, hown, eT, N, hsz, hlk⟩ := X
  subst hp; subst hty
  obtain ⟨T', h', cA, X', eT', E', A', stp⟩ := newP X hx hZ w eT (g := mkF m pc Ls (.int n :: S)) rfl (hb hby hd) rfl hn (cap := cap) hcap hb8 hc hs
  refine own_go stp (k _ _ _ ⟨X', hx, hZ, hby, hml, hown, eT', N, Nat.le_trans hsz E'.1, hlk⟩ E' rfl hsz ⟨cA, ?_, by simp⟩)
  have V := Arv.new A' hn
  rw [hdv] at V
  refine V.pad fun i => ?_
  rw [List.map_replicate]
  exact pad_rep [] (.int 0) n.toNatClampNeg i
theorem own_newW (X : own_A l Z own cb ml n0 p e R s m args below meth c T h locs cells slots) {n : Int32} (w : (Jvm.Cond.arrayClass .long).before a0 Z = true) (hn : ¬ n < 0) (cap : Nat) (hcap : n.toNatClampNeg ≤ cap) (hb8 : cap * 8 ≤ 536870912) (hc : cells + 1 ≤ R.cells) (hs : slots + cap ≤ R.slots)
    (hd : decode cb pc = .ok (.newarray .long, 2)) (hp : pc + 2 = pc') (k : ∀ T' h' a, own_A l Z own cb ml n0 p e R s m args below meth c T' h' locs (cells + 1) (slots + cap) → Ext h h' → h.size = a → n0 ≤ a → own_W Z h' a n (List.replicate n.toNatClampNeg 0) → own_E p e below G (T'.setTop (mkF m pc' Ls (.ref a :: S)))) : own_E p e below G (T.setTop (mkF m pc Ls (.int n :: S))) := by
  obtain ⟨X, hx, hZ, hby, hml, hown, eT, N, hsz, hlk⟩ := X
  subst hp
  obtain ⟨T', h', cA, X', eT', E', A', stp⟩ := newP X hx hZ (aty := .long) w eT (g := mkF m pc Ls (.int n :: S)) rfl (hb hby hd) rfl hn (cap := cap) hcap hb8 hc hs
  refine own_go stp (k _ _ _ ⟨X', hx, hZ, hby, hml, hown, eT', N, Nat.le_trans hsz E'.1, hlk⟩ E' rfl hsz ⟨cA, ?_, by simp⟩)
  have V := Arv.new A' hn
  refine V.pad fun i => ?_
  rw [List.map_replicate]
  exact pad_rep [] (.long 0) n.toNatClampNeg i
theorem own_bastore (X : own_A l Z own cb ml n0 p e R s m args below meth c T h locs cells slots) {a : Addr} {z j x y : Int32} {xs : List Int32} (V : own_V Z h a .byte z xs) (hg : n0 ≤ a) (hy : nar .byte x = y) (i : Nat) (hj : j.toNatClampNeg = i) (h0 : ¬ j < 0) (h1 : j < z)
    (hd : decode cb pc = .ok (.bastore, 1)) (hp : pc + 1 = pc') (k : ∀ T' h' locs', own_A l Z own cb ml n0 p e R s m args below meth c T' h' locs' cells slots → Wr h h' a j.toNatClampNeg (.int y) → own_V Z h' a .byte z (xs.set i y) → own_E p e below G (T'.setTop (mkF m pc' Ls S))) : own_E p e below G (T.setTop (mkF m pc Ls (.int x :: .int j :: .ref a :: S))) := by
  obtain ⟨X, hx, hZ, hby, hml, hown, eT, N, hsz, hlk⟩ := X
  obtain ⟨kc, ⟨cl, A, q1, q2, q3, H, F⟩, hlen⟩ := V
  subst hp; subst hy
  obtain ⟨T', h', X', eT', W, stp⟩ := stB X hx hZ eT A (j := j) (x := x) (inb_of q2 ⟨h0, h1⟩) (g := mkF m pc Ls (.int x :: .int j :: .ref a :: S)) rfl rfl (hb hby hd)
  refine own_go stp (k _ _ _ ⟨X', hx, hZ, hby, hml, hown, eT', Fr.snoc X' N hg, by rw [W.size]; exact hsz, hlk⟩ W ⟨kc, ?_, by rw [List.length_set]; exact hlen⟩)
  rw [List.map_set]
  exact Arv.set A q1 q2 q3 H F (fits_nar_byte _) W i hj (by rw [List.length_map, ← hj]; exact own_idx hlen h0 h1)
theorem own_iastore (X : own_A l Z own cb ml n0 p e R s m args below meth c T h locs cells slots) {a : Addr} {z j w x : Int32} {xs : List Int32} (V : own_V Z h a .int z xs) (hg : n0 ≤ a) (hy : w = x) (i : Nat) (hj : j.toNatClampNeg = i) (h0 : ¬ j < 0) (h1 : j < z)
    (hd : decode cb pc = .ok (.iastore, 1)) (hp : pc + 1 = pc') (k : ∀ T' h' locs', own_A l Z own cb ml n0 p e R s m args below meth c T' h' locs' cells slots → Wr h h' a j.toNatClampNeg (.int x) → own_V Z h' a .int z (xs.set i x) → own_E p e below G (T'.setTop (mkF m pc' Ls S))) : own_E p e below G (T.setTop (mkF m pc Ls (.int w :: .int j :: .ref a :: S))) := by
  obtain ⟨X, hx, hZ, hby, hml, hown, eT, N, hsz, hlk⟩ := X
  obtain ⟨kc, ⟨cl, A, q1, q2, q3, H, F⟩, hlen⟩ := V
  subst hp; subst hy
  obtain ⟨T', h', X', eT', W, stp⟩ := stI X hx hZ eT A (j := j) (x := w) (inb_of q2 ⟨h0, h1⟩) (g := mkF m pc Ls (.int w :: .int j :: .ref a :: S)) rfl rfl (hb hby hd)
  refine own_go stp (k _ _ _ ⟨X', hx, hZ, hby, hml, hown, eT', Fr.snoc X' N hg, by rw [W.size]; exact hsz, hlk⟩ W ⟨kc, ?_, by rw [List.length_set]; exact hlen⟩)
  rw [List.map_set]
  exact Arv.set A q1 q2 q3 H F rfl W i hj (by rw [List.length_map, ← hj]; exact own_idx hlen h0 h1)
theorem own_lastore (X : own_A l Z own cb ml n0 p e R s m args below meth c T h locs cells slots) {a : Addr} {z j : Int32} {w x : Int64} {xs : List Int64} (V : own_W Z h a z xs) (hg : n0 ≤ a) (hy : w = x) (i : Nat) (hj : j.toNatClampNeg = i) (h0 : ¬ j < 0) (h1 : j < z)
    (hd : decode cb pc = .ok (.lastore, 1)) (hp : pc + 1 = pc') (k : ∀ T' h' locs', own_A l Z own cb ml n0 p e R s m args below meth c T' h' locs' cells slots → Wr h h' a j.toNatClampNeg (.long x) → own_W Z h' a z (xs.set i x) → own_E p e below G (T'.setTop (mkF m pc' Ls S))) : own_E p e below G (T.setTop (mkF m pc Ls (.long w :: .int j :: .ref a :: S))) := by
  obtain ⟨X, hx, hZ, hby, hml, hown, eT, N, hsz, hlk⟩ := X
  obtain ⟨kc, ⟨cl, A, q1, q2, q3, H, F⟩, hlen⟩ := V
  subst hp; subst hy
  obtain ⟨T', h', X', eT', W, stp⟩ := stJ X hx hZ eT A (j := j) (x := w) (inb_of q2 ⟨h0, h1⟩) (g := mkF m pc Ls (.long w :: .int j :: .ref a :: S)) rfl rfl (hb hby hd)
  refine own_go stp (k _ _ _ ⟨X', hx, hZ, hby, hml, hown, eT', Fr.snoc X' N hg, by rw [W.size]; exact hsz, hlk⟩ W ⟨kc, ?_, by rw [List.length_set]; exact hlen⟩)
  rw [List.map_set]
  exact Arv.set A q1 q2 q3 H F rfl W i hj (by rw [List.length_map, ← hj]; exact own_idx hlen h0 h1)
theorem own_baload (X : own_A l Z own cb ml n0 p e R s m args below meth c T h locs cells slots) {a : Addr} {z j y : Int32} {xs : List Int32} (V : own_V Z h a .byte z xs) (h0 : ¬ j < 0) (h1 : j < z) (hy : xs.getD j.toNatClampNeg 0 = y) (hd : decode cb pc = .ok (.baload, 1)) (hp : pc + 1 = pc') (k : own_E p e below G (T.setTop (mkF m pc' Ls (.int y :: S)))) : own_E p e below G (T.setTop (mkF m pc Ls (.int j :: .ref a :: S))) := by
  obtain ⟨X, hx, hZ, hby, hml, hown, eT, N, hsz, hlk⟩ := X
  obtain ⟨kc, ⟨cl, A, q1, q2, q3, H, F⟩, hlen⟩ := V
  subst hp
  have hin := inb_of q2 (j := j) ⟨h0, h1⟩
  exact own_go (X.baloadBytes hx (j := j) (v := .int y) (by rw [eT]; exact A.1) (State.isArrayOf_alike hZ.alike A.2.1) A.2.2 hin (H.at hin (by rw [own_mapI, hy])) (g := mkF m pc Ls (.int j :: .ref a :: S)) rfl rfl (hb hby hd)) k
theorem own_iaload (X : own_A l Z own cb ml n0 p e R s m args below meth c T h locs cells slots) {a : Addr} {z j y : Int32} {xs : List Int32} (V : own_V Z h a .int z xs) (h0 : ¬ j < 0) (h1 : j < z) (hy : xs.getD j.toNatClampNeg 0 = y) (hd : decode cb pc = .ok (.iaload, 1)) (hp : pc + 1 = pc') (k : own_E p e below G (T.setTop (mkF m pc' Ls (.int y :: S)))) : own_E p e below G (T.setTop (mkF m pc Ls (.int j :: .ref a :: S))) := by
  obtain ⟨X, hx, hZ, hby, hml, hown, eT, N, hsz, hlk⟩ := X
  obtain ⟨kc, ⟨cl, A, q1, q2, q3, H, F⟩, hlen⟩ := V
  subst hp
  have hin := inb_of q2 (j := j) ⟨h0, h1⟩
  exact own_go (X.iaload hx (j := j) (v := .int y) (by rw [eT]; exact A.1) (State.isArrayOf_alike hZ.alike A.2.1) A.2.2 hin (H.at hin (by rw [own_mapI, hy])) (g := mkF m pc Ls (.int j :: .ref a :: S)) rfl rfl (hb hby hd)) k
theorem own_laload (X : own_A l Z own cb ml n0 p e R s m args below meth c T h locs cells slots) {a : Addr} {z j : Int32} {y : Int64} {xs : List Int64} (V : own_W Z h a z xs) (h0 : ¬ j < 0) (h1 : j < z) (hy : xs.getD j.toNatClampNeg 0 = y) (hd : decode cb pc = .ok (.laload, 1)) (hp : pc + 1 = pc') (k : own_E p e below G (T.setTop (mkF m pc' Ls (.long y :: S)))) : own_E p e below G (T.setTop (mkF m pc Ls (.int j :: .ref a :: S))) := by
  obtain ⟨X, hx, hZ, hby, hml, hown, eT, N, hsz, hlk⟩ := X
  obtain ⟨kc, ⟨cl, A, q1, q2, q3, H, F⟩, hlen⟩ := V
  subst hp
  have hin := inb_of q2 (j := j) ⟨h0, h1⟩
  exact own_go (X.laload hx (j := j) (v := .long y) (by rw [eT]; exact A.1) (State.isArrayOf_alike hZ.alike A.2.1) A.2.2 hin (H.at hin (by rw [own_mapL, hy])) (g := mkF m pc Ls (.int j :: .ref a :: S)) rfl rfl (hb hby hd)) k
theorem own_alen (X : own_A l Z own cb ml n0 p e R s m args below meth c T h locs cells slots) {a : Addr} {z : Int32} {ty : FieldType} {xs : List Int32} (V : own_V Z h a ty z xs) (hd : decode cb pc = .ok (.arraylength, 1)) (hp : pc + 1 = pc') (k : own_E p e below G (T.setTop (mkF m pc' Ls (.int z :: S)))) : own_E p e below G (T.setTop (mkF m pc Ls (.ref a :: S))) := by
  obtain ⟨X, hx, hZ, hby, hml, hown, eT, N, hsz, hlk⟩ := X
  obtain ⟨kc, ⟨cl, A, q1, q2, q3, H, F⟩, hlen⟩ := V
  subst hp
  refine own_go (X.arraylength hx (by rw [eT]; exact A.1) (State.isArrayOf_alike hZ.alike A.2.1) (g := mkF m pc Ls (.ref a :: S)) rfl rfl (hb hby hd)) ?_
  rw [len_of q2 q3]; exact k
end OwnKit
/-! OWN NUMBERS -/
theorem own_adL {a b : Int64} (h1 : -9223372036854775808 ≤ a.toInt + b.toInt) (h2 : a.toInt + b.toInt < 9223372036854775808) : (a + b).toInt = a.toInt + b.toInt := by
  rw [Int64.toInt_add]; exact Int.bmod_eq_of_le_mul_two (by omega) (by omega)
theorem own_sbL {a b : Int64} (h1 : -9223372036854775808 ≤ a.toInt - b.toInt) (h2 : a.toInt - b.toInt < 9223372036854775808) : (a - b).toInt = a.toInt - b.toInt := by
  rw [Int64.toInt_sub]; exact Int.bmod_eq_of_le_mul_two (by omega) (by omega)
theorem own_mlL {a b : Int64} (h1 : -9223372036854775808 ≤ a.toInt * b.toInt) (h2 : a.toInt * b.toInt < 9223372036854775808) : (a * b).toInt = a.toInt * b.toInt := by
  rw [Int64.toInt_mul]; exact Int.bmod_eq_of_le_mul_two (by omega) (by omega)
theorem own_ad {a b : Int32} (h1 : -2147483648 ≤ a.toInt + b.toInt) (h2 : a.toInt + b.toInt < 2147483648) : (a + b).toInt = a.toInt + b.toInt := by
  rw [Int32.toInt_add]; exact Int.bmod_eq_of_le_mul_two (by omega) (by omega)
theorem own_sb {a b : Int32} (h1 : -2147483648 ≤ a.toInt - b.toInt) (h2 : a.toInt - b.toInt < 2147483648) : (a - b).toInt = a.toInt - b.toInt := by
  rw [Int32.toInt_sub]; exact Int.bmod_eq_of_le_mul_two (by omega) (by omega)
theorem own_ml {a b : Int32} (h1 : -2147483648 ≤ a.toInt * b.toInt) (h2 : a.toInt * b.toInt < 2147483648) : (a * b).toInt = a.toInt * b.toInt := by
  rw [Int32.toInt_mul]; exact Int.bmod_eq_of_le_mul_two (by omega) (by omega)
theorem own_dvL {a b : Int64} (h0 : 0 ≤ a.toInt) (h1 : 0 < b.toInt) : (a / b).toInt = a.toInt / b.toInt := by
  rw [Int64.toInt_div, Int.tdiv_eq_ediv_of_nonneg h0]
  have := Int64.toInt_lt a
  have h2 : a.toInt / b.toInt ≤ a.toInt := Int.ediv_le_self _ h0
  have h3 : 0 ≤ a.toInt / b.toInt := Int.ediv_nonneg h0 (by omega)
  exact Int.bmod_eq_of_le_mul_two (by omega) (by omega)
theorem own_dv {a b : Int32} (h0 : 0 ≤ a.toInt) (h1 : 0 < b.toInt) : (a / b).toInt = a.toInt / b.toInt := by
  rw [Int32.toInt_div, Int.tdiv_eq_ediv_of_nonneg h0]
  have := Int32.toInt_lt a
  have h2 : a.toInt / b.toInt ≤ a.toInt := Int.ediv_le_self _ h0
  have h3 : 0 ≤ a.toInt / b.toInt := Int.ediv_nonneg h0 (by omega)
  exact Int.bmod_eq_of_le_mul_two (by omega) (by omega)
theorem own_rmL {a b : Int64} (h0 : 0 ≤ a.toInt) : (a % b).toInt = a.toInt % b.toInt := by
  rw [Int64.toInt_mod, Int.tmod_eq_emod_of_nonneg h0]
theorem own_rm {a b : Int32} (h0 : 0 ≤ a.toInt) : (a % b).toInt = a.toInt % b.toInt := by
  rw [Int32.toInt_mod, Int.tmod_eq_emod_of_nonneg h0]
theorem own_ltL {a b : Int64} : a < b ↔ a.toInt < b.toInt := Int64.lt_iff_toInt_lt
theorem own_lt {a b : Int32} : a < b ↔ a.toInt < b.toInt := Int32.lt_iff_toInt_lt
theorem own_eqL {a b : Int64} : a = b ↔ a.toInt = b.toInt := Int64.toInt_inj.symm
theorem own_eq {a b : Int32} : a = b ↔ a.toInt = b.toInt := Int32.toInt_inj.symm
theorem own_mkL {a b : Int64} {k : Nat} (hk : k < 64) (hb : b.toBitVec.toNat = 2 ^ k - 1) : (a &&& b).toInt = a.toInt % (2 ^ k : Nat) := by
  have e : (a &&& b).toBitVec.toNat = a.toBitVec.toNat % 2 ^ k := by rw [Int64.toBitVec_and, BitVec.toNat_and, hb, Nat.and_two_pow_sub_one_eq_mod]
  have hlt : a.toBitVec.toNat % 2 ^ k < 2 ^ 63 := Nat.lt_of_lt_of_le (Nat.mod_lt _ (Nat.two_pow_pos k)) (Nat.pow_le_pow_right (by decide) (by omega))
  have e2 : (a &&& b).toInt = ((a.toBitVec.toNat % 2 ^ k : Nat) : Int) := by
    show (a &&& b).toBitVec.toInt = _
    rw [BitVec.toInt_eq_toNat_cond, e, if_pos (by omega)]
  rw [e2]
  show _ = a.toBitVec.toInt % _
  rw [BitVec.toInt_eq_toNat_cond]
  have hd : ((2 ^ 64 : Nat) : Int) % ((2 ^ k : Nat) : Int) = 0 := by
    rw [← Int.natCast_emod, Nat.mod_eq_zero_of_dvd (Nat.pow_dvd_pow 2 (by omega))]; rfl
  split
  · rw [Int.natCast_emod]
  · rw [Int.sub_emod, hd, Int.sub_zero, Int.emod_emod_of_dvd _ (Int.dvd_refl _), Int.natCast_emod]
theorem own_mk {a b : Int32} {k : Nat} (hk : k < 32) (hb : b.toBitVec.toNat = 2 ^ k - 1) : (a &&& b).toInt = a.toInt % (2 ^ k : Nat) := by
  have e : (a &&& b).toBitVec.toNat = a.toBitVec.toNat % 2 ^ k := by rw [Int32.toBitVec_and, BitVec.toNat_and, hb, Nat.and_two_pow_sub_one_eq_mod]
  have hlt : a.toBitVec.toNat % 2 ^ k < 2 ^ 31 := Nat.lt_of_lt_of_le (Nat.mod_lt _ (Nat.two_pow_pos k)) (Nat.pow_le_pow_right (by decide) (by omega))
  have e2 : (a &&& b).toInt = ((a.toBitVec.toNat % 2 ^ k : Nat) : Int) := by
    show (a &&& b).toBitVec.toInt = _
    rw [BitVec.toInt_eq_toNat_cond, e, if_pos (by omega)]
  rw [e2]
  show _ = a.toBitVec.toInt % _
  rw [BitVec.toInt_eq_toNat_cond]
  have hd : ((2 ^ 32 : Nat) : Int) % ((2 ^ k : Nat) : Int) = 0 := by
    rw [← Int.natCast_emod, Nat.mod_eq_zero_of_dvd (Nat.pow_dvd_pow 2 (by omega))]; rfl
  split
  · rw [Int.natCast_emod]
  · rw [Int.sub_emod, hd, Int.sub_zero, Int.emod_emod_of_dvd _ (Int.dvd_refl _), Int.natCast_emod]
theorem own_AL {a b : Int64} {x y : Int} (ha : a.toInt = x) (hb : b.toInt = y) (h1 : -9223372036854775808 ≤ x + y) (h2 : x + y < 9223372036854775808) : (a + b).toInt = x + y := by subst ha hb; exact own_adL h1 h2
theorem own_SL {a b : Int64} {x y : Int} (ha : a.toInt = x) (hb : b.toInt = y) (h1 : -9223372036854775808 ≤ x - y) (h2 : x - y < 9223372036854775808) : (a - b).toInt = x - y := by subst ha hb; exact own_sbL h1 h2
theorem own_ML {a b : Int64} {x y : Int} (ha : a.toInt = x) (hb : b.toInt = y) (h1 : -9223372036854775808 ≤ x * y) (h2 : x * y < 9223372036854775808) : (a * b).toInt = x * y := by subst ha hb; exact own_mlL h1 h2
theorem own_DL {a b : Int64} {x y : Int} (ha : a.toInt = x) (hb : b.toInt = y) (h1 : 0 ≤ x) (h2 : 0 < y) : (a / b).toInt = x / y := by subst ha hb; exact own_dvL h1 h2
theorem own_RL {a b : Int64} {x y : Int} (ha : a.toInt = x) (hb : b.toInt = y) (h1 : 0 ≤ x) : (a % b).toInt = x % y := by subst ha hb; exact own_rmL h1
theorem own_AI {a b : Int32} {x y : Int} (ha : a.toInt = x) (hb : b.toInt = y) (h1 : -2147483648 ≤ x + y) (h2 : x + y < 2147483648) : (a + b).toInt = x + y := by subst ha hb; exact own_ad h1 h2
theorem own_SI {a b : Int32} {x y : Int} (ha : a.toInt = x) (hb : b.toInt = y) (h1 : -2147483648 ≤ x - y) (h2 : x - y < 2147483648) : (a - b).toInt = x - y := by subst ha hb; exact own_sb h1 h2
theorem own_MI {a b : Int32} {x y : Int} (ha : a.toInt = x) (hb : b.toInt = y) (h1 : -2147483648 ≤ x * y) (h2 : x * y < 2147483648) : (a * b).toInt = x * y := by subst ha hb; exact own_ml h1 h2
theorem own_DI {a b : Int32} {x y : Int} (ha : a.toInt = x) (hb : b.toInt = y) (h1 : 0 ≤ x) (h2 : 0 < y) : (a / b).toInt = x / y := by subst ha hb; exact own_dv h1 h2
theorem own_RI {a b : Int32} {x y : Int} (ha : a.toInt = x) (hb : b.toInt = y) (h1 : 0 ≤ x) : (a % b).toInt = x % y := by subst ha hb; exact own_rm h1
theorem own_pos {z : Int32} (h : ¬ z < 0) (h1 : ¬ z = 0) : (0 : Int32) < z := by
  have e0 : (0 : Int32).toInt = 0 := rfl
  rw [own_lt] at *; rw [own_eq] at h1; omega
theorem own_last {z : Int32} (h : (0 : Int32) < z) : ¬ z - 1 < 0 ∧ z - 1 < z := by
  have e0 : (0 : Int32).toInt = 0 := rfl
  have e1 : (1 : Int32).toInt = 1 := rfl
  have hl := Int32.toInt_lt z
  rw [own_lt] at h
  have a : (z - 1).toInt = z.toInt - 1 := own_SI rfl e1 (by omega) (by omega)
  rw [own_lt, own_lt]; omega
theorem own_gs {α : Type} (l : List α) (i j : Nat) (v d : α) (hi : i < l.length) : (l.set i v).getD j d = if i = j then v else l.getD j d := by
  simp only [List.getD_eq_getElem?_getD]
  by_cases h : i = j
  · subst h; rw [if_pos rfl, List.getElem?_set_self hi]; rfl
  · rw [if_neg h, List.getElem?_set_ne h]
theorem own_cl {n : Int32} {k : Int} (h : n.toInt = k) : n.toNatClampNeg = k.toNat := by subst h; rfl
theorem own_b8 {t : Int32} (h0 : -128 ≤ t.toInt) (h1 : t.toInt < 128) : t.toInt8.toInt32 = t := by
  rw [own_eq, Int8.toInt_toInt32, Int32.toInt_toInt8]
  exact Int.bmod_eq_of_le_mul_two (by omega) (by omega)
theorem own_i8 {t : Int32} {x : Int} (h : t.toInt = x) : (t.toInt8.toInt32).toInt = (x + 128) % 256 - 128 := by
  subst h
  rw [Int8.toInt_toInt32, Int32.toInt_toInt8, Int.bmod_def]
  split <;> omega
theorem own_shrI {a b : Int32} {x : Int} {k : Nat} (h : a.toInt = x) (hb : (b.toBitVec.smod (BitVec.ofNat 32 32)).toNat = k) : (a >>> b).toInt = x / (2 ^ k : Nat) := by
  subst h; subst hb
  show (a.toBitVec.sshiftRight' (b.toBitVec.smod (BitVec.ofNat 32 32))).toInt = _
  rw [BitVec.toInt_sshiftRight', Int.shiftRight_eq_div_pow]; rfl
theorem own_shlI {a b : Int32} {x : Int} {k : Nat} (h : a.toInt = x) (hb : (b.toBitVec.smod (BitVec.ofNat 32 32)).toNat = k) (h1 : -2147483648 ≤ x * (2 ^ k : Nat)) (h2 : x * (2 ^ k : Nat) < 2147483648) : (a <<< b).toInt = x * (2 ^ k : Nat) := by
  subst h; subst hb
  show (a.toBitVec <<< (b.toBitVec.smod (BitVec.ofNat 32 32))).toInt = a.toBitVec.toInt * _
  rw [BitVec.shiftLeft_eq', BitVec.toInt_shiftLeft, Nat.shiftLeft_eq, BitVec.toInt_eq_toNat_bmod]
  rw [show ((a.toBitVec.toNat * 2 ^ (b.toBitVec.smod (BitVec.ofNat 32 32)).toNat : Nat) : Int) = (a.toBitVec.toNat : Int) * ((2 ^ (b.toBitVec.smod (BitVec.ofNat 32 32)).toNat : Nat) : Int) from by simp]
  rw [← Int.bmod_mul_bmod]
  have e : ((a.toBitVec.toNat : Int).bmod (2 ^ 32)) = a.toInt := (BitVec.toInt_eq_toNat_bmod _).symm
  rw [e]
  exact Int.bmod_eq_of_le_mul_two (by omega) (by omega)
theorem own_orI {a b : Int32} {x y : Int} (k : Nat) (ha : a.toInt = x) (hb : b.toInt = y) (hk : k ≤ 31) (hx : x % (2 ^ k : Nat) = 0) (h0 : 0 ≤ y) (h1 : y < (2 ^ k : Nat)) (h2 : 0 ≤ x) : (a ||| b).toInt = x + y := by
  have la := a.toBitVec.isLt; have lb := b.toBitVec.isLt
  have na : (a.toBitVec.toNat : Int) = x := by
    have : a.toBitVec.toInt = x := ha
    rw [BitVec.toInt_eq_toNat_cond] at this; split at this <;> omega
  have nb : (b.toBitVec.toNat : Int) = y := by
    have : b.toBitVec.toInt = y := hb
    rw [BitVec.toInt_eq_toNat_cond] at this; split at this <;> omega
  have hm : a.toBitVec.toNat % 2 ^ k = 0 := by
    have : ((a.toBitVec.toNat % 2 ^ k : Nat) : Int) = 0 := by rw [Int.natCast_emod, na]; exact hx
    omega
  have hl : b.toBitVec.toNat < 2 ^ k := by omega
  have ho : a.toBitVec.toNat ||| b.toBitVec.toNat = a.toBitVec.toNat + b.toBitVec.toNat := by
    have hd : a.toBitVec.toNat = 2 ^ k * (a.toBitVec.toNat / 2 ^ k) := by
      have := Nat.div_add_mod a.toBitVec.toNat (2 ^ k); omega
    rw [hd, Nat.two_pow_add_eq_or_of_lt hl]
  have q : (a ||| b).toBitVec.toNat = a.toBitVec.toNat + b.toBitVec.toNat := by rw [Int32.toBitVec_or, BitVec.toNat_or, ho]
  have hA : a.toBitVec.toNat < 2 ^ 31 := by
    have : a.toBitVec.toInt = x := ha
    rw [BitVec.toInt_eq_toNat_cond] at this; split at this <;> omega
  have hB : b.toBitVec.toNat < 2 ^ 31 := by
    have : b.toBitVec.toInt = y := hb
    rw [BitVec.toInt_eq_toNat_cond] at this; split at this <;> omega
  have hS : a.toBitVec.toNat + b.toBitVec.toNat < 2 ^ 31 := by rw [← ho]; exact Nat.or_lt_two_pow hA hB
  show (a ||| b).toBitVec.toInt = _
  rw [BitVec.toInt_eq_toNat_cond, q, if_pos (by omega)]
  omega
theorem own_yes {c : Prop} [d : Decidable c] {a b r : Int32} (h : c) (h2 : a = r) : (if c then a else b) = r := (if_pos h).trans h2
theorem own_no {c : Prop} [d : Decidable c] {a b r : Int32} (h : ¬ c) (h2 : b = r) : (if c then a else b) = r := (if_neg h).trans h2
/-! OWN KIT, WIDE: a walk that may load a String constant: it stands over s.setVm vm0, s the true start -/
def own_GW (R : Room) (s : State) (n0 : Nat) (Q : Option Value → Heap → Prop) (o : Outcome) (U : State) : Prop := ∃ v L, o = .returned v ∧ (Q v U.heap ∧ Fr n0 L ∧ n0 ≤ U.heap.size) ∧ ReturnedEndW s o U L R.cells R.slots
def own_ConW (l : Launch) (Z : State) (y : MethodName) (cb : ByteArray) (ml : Nat) (ret : Option FieldType) (rm : Room) (as' : Array Value) (h0 : Heap) (n0 : Nat) (Q : Option Value → Heap → Prop) : Prop :=
  ∀ ws, MetFree l y (head1 (Jvm.Cond.code y cb ml ret :: ws) rm) (fun a U => a = as' ∧ Z.Warmed39 U.vm ∧ U.heap = h0) (fun _ _ _ _ _ => True) (fun _ U o U' => ∃ v L, o = .returned v ∧ (Q v U'.heap ∧ Fr n0 L ∧ n0 ≤ U'.heap.size) ∧ ReturnedEndW U o U' L rm.cells rm.slots)
section OwnWide
variable {l : Launch} {Z : State} {a0 : Array Value} {own : String} {cb : ByteArray} {ml n0 : Nat} {p : Program} {e : Env} {R : Room} {s : State} {vm0 : Vm} {m : MethodId} {args : Array Value} {below : List Frame} {meth : Method} {c : Code} {T : State} {h h' : Heap} {locs : List Loc} {cells slots k0 : Nat} {G : Outcome → State → Prop} {pc pc' : Nat} {Ls Ls' : Array Slot} {S : List Value}
theorem own_enterW {y : MethodName} {ret : Option FieldType} {as' : Array Value} {h0 : Heap} {Q : Option Value → Heap → Prop} (hpl : plainFor y = true) (hsz : n0 ≤ h0.size) (hef : ∀ m, entryFrame m as' ml = mkF m 0 Ls [])
    (k : ∀ p e s m below meth c T, own_A l Z y.cls cb ml n0 p e R (s.setVm s.vm) m as' below meth c T h0 [] 0 0 → s.Since s.vm 0 → meth.sig.returnType = ret → meth.name = y.name → own_E p e below (own_GW R s n0 Q) (T.setTop (mkF m 0 Ls []))) : own_ConW l Z y cb ml ret R as' h0 n0 Q := by
  intro ws
  refine MetFree.of_bodySF hpl hisR ?_
  intro p e s m args below meth c s₁ Bd hml0 hP hK
  obtain ⟨rfl, hZ, hh⟩ := hP
  have e0 : s₁.heap = h0 := by rw [← hh, Bd.state]; rfl
  have X : Stand p l e R s m args below meth c s₁ [] 0 0 := Stand.of_body Bd
  have K := k p e s m below meth c s₁ ⟨X, Bd.exec, hZ, Bd.bytes, hml0, findClass_of_methodNamed Bd.named, e0, Fr.nil n0, hsz, Bd.notSynchronized⟩ ((State.WarmedH.refl s).since 0) Bd.returns (name_of_methodNamed Bd.named Bd.method).1
  obtain ⟨s₂, o, h1, h2, h3, h4⟩ := K
  exact ⟨s₂, o, castTop (hef m) h1, h2, h3, h4⟩
theorem own_iretW (X : own_A l Z own cb ml n0 p e R (s.setVm vm0) m args below meth c T h locs cells slots) (hS : s.Since vm0 k0) (hk : k0 ≤ h.size) {t : FieldType} {z w : Int32} {Q : Option Value → Heap → Prop} (hr : meth.sig.returnType = some t) (ht : t = .int ∨ t = .boolean ∨ t = .byte ∨ t = .char ∨ t = .short) (hd : decode cb pc = .ok (.ireturn, 1)) (hz : nar t z = w) (hc : cells ≤ R.cells) (hs : slots ≤ R.slots) (hQ : Q (some (.int w)) h) :
    own_E p e below (own_GW R s n0 Q) (T.setTop (mkF m pc Ls (.int z :: S))) := by
  obtain ⟨X, hx, hZ, hby, hml, hown, rfl, N, hsz, hlk⟩ := X
  subst hz
  obtain ⟨fs, hl, hrun, hended, hW⟩ := X.leaveW hS hk (v := some (.int (nar t z))) (fun q => by rw [hr] at q; cases q) hlk
  refine ⟨_, _, ?_, hrun, hended, _, locs, rfl, ⟨hQ, N, hsz⟩, hW.1, hW.2.1, hW.2.2.1, hW.2.2.2.mono hc hs⟩
  rcases ht with rfl | ht
  · exact retOut X hx hr rfl (Or.inl ⟨rfl, Or.inl rfl, z, rfl⟩) (hb hby hd) hl
  · exact retN X hx hr ht (hb hby hd) hl
theorem own_vretW (X : own_A l Z own cb ml n0 p e R (s.setVm vm0) m args below meth c T h locs cells slots) (hS : s.Since vm0 k0) (hk : k0 ≤ h.size) {Q : Option Value → Heap → Prop} (hr : meth.sig.returnType = none) (hd : decode cb pc = .ok (.return_, 1)) (hc : cells ≤ R.cells) (hs : slots ≤ R.slots) (hQ : Q none h) :
    own_E p e below (own_GW R s n0 Q) (T.setTop (mkF m pc Ls [])) := by
  obtain ⟨X, hx, hZ, hby, hml, hown, rfl, N, hsz, hlk⟩ := X
  obtain ⟨fs, hl, hrun, hended, hW⟩ := X.leaveW hS hk (v := none) (fun _ => rfl) hlk
  exact ⟨_, _, X.returnOut hx hr (hb hby hd) hl, hrun, hended, _, locs, rfl, ⟨hQ, N, hsz⟩, hW.1, hW.2.1, hW.2.2.1, hW.2.2.2.mono hc hs⟩
theorem own_ldcS (X : own_A l Z own cb ml n0 p e R (s.setVm vm0) m args below meth c T h locs cells slots) (hS : s.Since vm0 k0) (hk : k0 ≤ h.size) {i : Nat} {text : String} (w : (Jvm.Cond.stringLink own i text).before a0 Z = true) (wS : ∀ a ∈ Bundle.stringAtoms, a.before a0 Z = true) (n : Nat) (hn : 4 * text.toList.length ≤ n) (hbig : n ≤ 536870912) (hc : cells + 2 ≤ R.cells) (hl : slots + (n + 4) ≤ R.slots)
    (hd : decode cb pc = .ok (.ldc i, 2)) (hp : pc + 2 = pc') (k : ∀ a T' h' vm1 k1, own_A l Z own cb ml n0 p e R (s.setVm vm1) m args below meth c T' h' locs (cells + 2) (slots + (n + 4)) → Ext h h' → s.Since vm1 k1 → k1 ≤ h'.size → own_E p e below G (T'.setTop (mkF m pc' Ls (.ref a :: S)))) : own_E p e below G (T.setTop (mkF m pc Ls S)) := by
  obtain ⟨X, hx, hZ, hby, hml, hown, eT, N, hsz, hlk⟩ := X
  subst hp
  obtain ⟨a, T', h1, k1, X', eT', E', hS', hk', hZ', hown', stp⟩ := ldcS X hx hZ hown w wS eT hS hk (g := mkF m pc Ls S) rfl (hb hby hd) hn hbig hc hl
  exact own_go stp (k _ _ _ _ _ ⟨X', hx, hZ', hby, hml, hown', eT', N, Nat.le_trans hsz E'.1, hlk⟩ E' hS' hk')
theorem own_callIW (X : own_A l Z own cb ml n0 p e R (s.setVm vm0) m args below meth c T h locs cells slots) (hS : s.Since vm0 k0) (hk : k0 ≤ h.size) {y : MethodName} {cb' : ByteArray} {ml' : Nat} {rm : Room} {a : Addr} {argsL st : List Value} {Q : Option Value → Heap → Prop} {i : Nat} (hC : own_ConW l Z y cb' ml' none rm (.ref a :: argsL).toArray h n0 Q) (hy1 : y.name = "<init>")
    (w1 : (Jvm.Cond.methodLink own i y).before a0 Z = true) (w2 : (Jvm.Cond.instanceMethod y).before a0 Z = true) (w3 : (Jvm.Cond.initialized y.cls).before a0 Z = true) (w4 : (Jvm.Cond.code y cb' ml' none).before a0 Z = true) (hy : y.cls ≠ "java/lang/invoke/MethodHandle" ∧ y.cls ≠ "java/lang/invoke/VarHandle")
    (hf : rm.frames + 1 ≤ R.frames) (W : Nat) (hl : W + (ml' + 11) + rm.locals ≤ R.locals) (hls : Ls.size = ml) {ps : List FieldType} {r : Option FieldType} (hpd : parseMethodDescriptor y.desc = some ⟨ps, r⟩) (hlen : argsL.length = ps.length) (hst : st = argsL.reverse ++ .ref a :: S) (hW : (S.map fun v => v.category).sum ≤ W) (hcl : cells + rm.cells ≤ R.cells) (hsl : slots + rm.slots ≤ R.slots)
    (hd : decode cb pc = .ok (.invokespecial i, 3)) (hp : pc + 3 = pc') (k : ∀ T' h' locs' v vm1, own_A l Z own cb ml n0 p e R (s.setVm vm1) m args below meth c T' h' locs' (cells + rm.cells) (slots + rm.slots) → s.Since vm1 h'.size → Q v h' → own_E p e below G (T'.setTop (mkF m pc' Ls (v.toList ++ S)))) : own_E p e below G (T.setTop (mkF m pc Ls st)) := by
  obtain ⟨X, hx, hZ, hby, hml, hown, eT, N, hsz, hlk⟩ := X
  subst hp
  obtain ⟨v, _, ⟨T', L', k', n'⟩, -, X', hS', hgr, ⟨Lc, hQ, q1, q2, q3⟩, stp⟩ := X.specialBackS hx (y := y) hy1 hown (mvT hZ w1) (mvT hZ w2) (mvT hZ w4) hy (backOfS (Q := fun v h L => Q v h ∧ Fr n0 L ∧ n0 ≤ h.size) (W := W) (hC []) hZ w4 w3 hf hl) (g := mkF m pc Ls st) rfl (by rw [hml]; exact hls) (Steps.refl _) (a := a) (argsL := argsL) (rest := S) (lenOf hpd hlen) hst (by show 2 * 0 + _ ≤ _; omega) (hb hby hd) (fun _ _ => ⟨rfl, eT, hcl, hsl⟩)
  dsimp only [Pt.U, Pt.locs, Pt.cells, Pt.slots] at X' q1 q2 q3 stp hQ hS' hgr
  subst q1 q2 q3
  have hZ' : Z.Warmed39 (s.setVm T'.vm).vm := State.Warmed39.trans (t := s.setVm vm0) hZ hS'.1
  have hown' : (s.setVm T'.vm).vm.findClass own = some m.cls := by rw [show (s.setVm T'.vm).vm = T'.vm from rfl, hS'.1.alike.findClass]; exact hown
  have hS2 : s.Since T'.vm T'.heap.size := hS.trans hS' (Nat.le_trans hk (by rw [← eT]; exact hgr))
  exact own_go (fun _ z => stp.trans z) (k _ _ _ _ T'.vm ⟨X', hx, hZ', hby, hml, hown', rfl, N.app hQ.2.1, hQ.2.2, hlk⟩ hS2 hQ.1)
end OwnWide
theorem own_d3_0 : decode jdk_30_method_1_code 0 = .ok (.aload_n 0, 1) := by decide +kernel
theorem own_d3_1 : decode jdk_30_method_1_code 1 = .ok (.invokespecial 1, 3) := by decide +kernel
theorem own_d3_4 : decode jdk_30_method_1_code 4 = .ok (.return_, 1) := by decide +kernel
theorem own_ef3 (a1 : Addr) (m : MethodId) : entryFrame m #[(.ref a1)] 1 = mkF m 0 #[.val (.ref a1)] [] := by first | (simp [entryFrame, mkF, argsToLocals, Value.category]; done) | rfl
theorem own_pf3 : plainFor (⟨"java/lang/Record", "<init>", "()V"⟩ : MethodName) = true := by first | exact plainFor_of_name (by first | (simp [plainName, overriddenIn]; done) | decide +kernel) | decide +kernel
set_option maxRecDepth 65536 in
set_option maxHeartbeats 40000000 in
theorem own_rm3 (l : Launch) (Z : State) (a0 : Array Value) (hw : ∀ d ∈ tables_1, d.before a0 Z = true) (a1 : Addr) (h0 : Heap) (n0 : Nat) (Z0 : n0 ≤ h0.size) :
    own_Con l Z (⟨"java/lang/Record", "<init>", "()V"⟩ : MethodName) jdk_30_method_1_code 1 none ({ frames := 1, cells := 0, slots := 0, locals := 12 } : Room) #[(.ref a1)] h0 n0 (fun v h => v = none ∧ h = h0) := by
  refine own_enter own_pf3 Z0 (own_ef3 a1) ?_
  intro p e s m below meth c T0 X0 hret hnm
  refine own_aloadN X0 own_d3_0 (pc' := 1) rfl (v := (.ref a1)) rfl rfl ?_
  refine own_initO X0 (hw _ (List.mem_of_getElem? (i := 16) rfl)) (hw _ (List.mem_of_getElem? (i := 17) rfl)) (hw _ (List.mem_of_getElem? (i := 18) rfl)) rfl (by decide) 0 (Nat.le_of_eq rfl) (by decide) own_d3_1 (pc' := 4) rfl fun T1 X2 => ?_
  refine own_vret X2 hret own_d3_4 (by decide) (by decide) ?_
  exact ⟨rfl, rfl⟩
theorem own_d1_0 : decode jdk_29_method_65_code 0 = .ok (.iload_n 0, 1) := by decide +kernel
theorem own_d1_1 : decode jdk_29_method_65_code 1 = .ok (.iload_n 1, 1) := by decide +kernel
theorem own_d1_2 : decode jdk_29_method_65_code 2 = .ok (.if_icmp .lt 7, 3) := by decide +kernel
theorem own_d1_5 : decode jdk_29_method_65_code 5 = .ok (.iload_n 0, 1) := by decide +kernel
theorem own_d1_6 : decode jdk_29_method_65_code 6 = .ok (.goto 4, 3) := by decide +kernel
theorem own_d1_9 : decode jdk_29_method_65_code 9 = .ok (.iload_n 1, 1) := by decide +kernel
theorem own_d1_10 : decode jdk_29_method_65_code 10 = .ok (.ireturn, 1) := by decide +kernel
theorem own_ef1 (p1 : Int32) (p2 : Int32) (m : MethodId) : entryFrame m #[(.int p1), (.int p2)] 2 = mkF m 0 #[.val (.int p1), .val (.int p2)] [] := by first | (simp [entryFrame, mkF, argsToLocals, Value.category]; done) | rfl
theorem own_pf1 : plainFor (⟨"java/lang/Math", "max", "(II)I"⟩ : MethodName) = true := Jvm.Free.JP.mathPlain rfl (by decide +kernel)
def own_F1 (p1 : Int32) (p2 : Int32) : Int32 := (if p1 < p2 then p2 else p1)
set_option maxRecDepth 65536 in
set_option maxHeartbeats 40000000 in
theorem own_rm1 (l : Launch) (Z : State) (a0 : Array Value) (hw : ∀ d ∈ tables_1, d.before a0 Z = true) (p1 : Int32) (p2 : Int32) (h0 : Heap) (n0 : Nat) (Z0 : n0 ≤ h0.size) :
    own_Con l Z (⟨"java/lang/Math", "max", "(II)I"⟩ : MethodName) jdk_29_method_65_code 2 (some .int) ({ frames := 0, cells := 0, slots := 0, locals := 0 } : Room) #[(.int p1), (.int p2)] h0 n0 (fun v h => v = some (.int (own_F1 p1 p2)) ∧ h = h0) := by
  refine own_enter own_pf1 Z0 (own_ef1 p1 p2) ?_
  intro p e s m below meth c T0 X0 hret hnm
  refine own_iloadN X0 own_d1_0 (pc' := 1) rfl (v := p1) rfl ?_
  refine own_iloadN X0 own_d1_1 (pc' := 2) rfl (v := p2) rfl ?_
  by_cases hc1 : p1 < p2
  · refine own_icmpY X0 own_d1_2 (tlt hc1).1 (by decide) (pc' := 9) rfl ?_
    refine own_iloadN X0 own_d1_9 (pc' := 10) rfl (v := p2) rfl ?_
    refine own_iret X0 (t := .int) (w := p2) hret (by simp) own_d1_10 rfl (by decide) (by decide) ?_
    exact ⟨congrArg (fun t => some (Value.int t)) (show p2 = own_F1 p1 p2 from (by rw [own_F1, if_pos hc1])), rfl⟩
  · refine own_icmpN X0 own_d1_2 (flt hc1).1 (pc' := 5) rfl ?_
    refine own_iloadN X0 own_d1_5 (pc' := 6) rfl (v := p1) rfl ?_
    refine own_goto X0 own_d1_6 (by decide) (pc' := 10) rfl ?_
    refine own_iret X0 (t := .int) (w := p1) hret (by simp) own_d1_10 rfl (by decide) (by decide) ?_
    exact ⟨congrArg (fun t => some (Value.int t)) (show p1 = own_F1 p1 p2 from (by rw [own_F1, if_neg hc1])), rfl⟩
theorem own_d5_0 : decode prog_15_method_4_code 0 = .ok (.aload_n 1, 1) := by decide +kernel
theorem own_d5_1 : decode prog_15_method_4_code 1 = .ok (.astore_n 2, 1) := by decide +kernel
theorem own_d5_2 : decode prog_15_method_4_code 2 = .ok (.aload_n 2, 1) := by decide +kernel
theorem own_d5_3 : decode prog_15_method_4_code 3 = .ok (.arraylength, 1) := by decide +kernel
theorem own_d5_4 : decode prog_15_method_4_code 4 = .ok (.istore_n 3, 1) := by decide +kernel
theorem own_d5_5 : decode prog_15_method_4_code 5 = .ok (.iconst 0, 1) := by decide +kernel
theorem own_d5_6 : decode prog_15_method_4_code 6 = .ok (.istore 4, 2) := by decide +kernel
theorem own_d5_8 : decode prog_15_method_4_code 8 = .ok (.iload 4, 2) := by decide +kernel
theorem own_d5_10 : decode prog_15_method_4_code 10 = .ok (.iload_n 3, 1) := by decide +kernel
theorem own_d5_11 : decode prog_15_method_4_code 11 = .ok (.if_icmp .ge 62, 3) := by decide +kernel
theorem own_d5_14 : decode prog_15_method_4_code 14 = .ok (.aload_n 2, 1) := by decide +kernel
theorem own_d5_15 : decode prog_15_method_4_code 15 = .ok (.iload 4, 2) := by decide +kernel
theorem own_d5_17 : decode prog_15_method_4_code 17 = .ok (.iaload, 1) := by decide +kernel
theorem own_d5_18 : decode prog_15_method_4_code 18 = .ok (.istore 5, 2) := by decide +kernel
theorem own_d5_20 : decode prog_15_method_4_code 20 = .ok (.iload 5, 2) := by decide +kernel
theorem own_d5_22 : decode prog_15_method_4_code 22 = .ok (.iconst 1, 1) := by decide +kernel
theorem own_d5_23 : decode prog_15_method_4_code 23 = .ok (.if_icmp .ge 44, 3) := by decide +kernel
theorem own_d5_67 : decode prog_15_method_4_code 67 = .ok (.iinc 4 1, 3) := by decide +kernel
theorem own_d5_70 : decode prog_15_method_4_code 70 = .ok (.goto (-62), 3) := by decide +kernel
theorem own_d5_73 : decode prog_15_method_4_code 73 = .ok (.return_, 1) := by decide +kernel
theorem own_ef5 (a1 : Addr) (a2 : Addr) (m : MethodId) : entryFrame m #[(.ref a1), (.ref a2)] 6 = mkF m 0 #[.val (.ref a1), .val (.ref a2), .unset, .unset, .unset, .unset] [] := by first | (simp [entryFrame, mkF, argsToLocals, Value.category]; done) | rfl
theorem own_pf5 : plainFor (⟨"com/example/moratuwa/moratuwa/limit/Algorithm", "requireAtLeastOne", "(Ljava/lang/String;[I)V"⟩ : MethodName) = true := by first | exact plainFor_of_name (by first | (simp [plainName, overriddenIn]; done) | decide +kernel) | decide +kernel
set_option maxRecDepth 65536 in
set_option maxHeartbeats 40000000 in
theorem own_rm5 (l : Launch) (Z : State) (a0 : Array Value) (hw : ∀ d ∈ tables_1, d.before a0 Z = true) (a1 : Addr) (a2 : Addr) (x0 : Int32) (x1 : Int32) (h0 : Heap) (n0 : Nat) (Z0 : n0 ≤ h0.size) (V_a2 : own_V Z h0 a2 .int (2 : Int32) [x0, x1]) (h1 : ¬ x0 < (1 : Int32)) (h2 : ¬ x1 < (1 : Int32)) :
    own_Con l Z (⟨"com/example/moratuwa/moratuwa/limit/Algorithm", "requireAtLeastOne", "(Ljava/lang/String;[I)V"⟩ : MethodName) prog_15_method_4_code 6 none ({ frames := 0, cells := 0, slots := 0, locals := 0 } : Room) #[(.ref a1), (.ref a2)] h0 n0 (fun v h => v = none ∧ h = h0) := by
  refine own_enter own_pf5 Z0 (own_ef5 a1 a2) ?_
  intro p e s m below meth c T0 X0 hret hnm
  refine own_aloadN X0 own_d5_0 (pc' := 1) rfl (v := (.ref a2)) rfl rfl ?_
  refine own_astoreN X0 own_d5_1 (pc' := 2) rfl rfl (Ls' := #[.val (.ref a1), .val (.ref a2), .val (.ref a2), .unset, .unset, .unset]) rfl ?_
  refine own_aloadN X0 own_d5_2 (pc' := 3) rfl (v := (.ref a2)) rfl rfl ?_
  refine own_alen X0 V_a2 own_d5_3 (pc' := 4) rfl ?_
  refine own_istoreN X0 own_d5_4 (pc' := 5) rfl (y := (2 : Int32)) rfl (Ls' := #[.val (.ref a1), .val (.ref a2), .val (.ref a2), .val (.int (2 : Int32)), .unset, .unset]) rfl ?_
  refine own_iconst X0 own_d5_5 (pc' := 6) rfl (z := (0 : Int32)) rfl ?_
  refine own_istore X0 own_d5_6 (pc' := 8) rfl (y := (0 : Int32)) rfl (Ls' := #[.val (.ref a1), .val (.ref a2), .val (.ref a2), .val (.int (2 : Int32)), .val (.int (0 : Int32)), .unset]) rfl ?_
  refine own_iload X0 own_d5_8 (pc' := 10) rfl (v := (0 : Int32)) rfl ?_
  refine own_iloadN X0 own_d5_10 (pc' := 11) rfl (v := (2 : Int32)) rfl ?_
  have hk1 : (0 : Int32) < (2 : Int32) := (by decide)
  refine own_icmpN X0 own_d5_11 (tlt hk1).2.1 (pc' := 14) rfl ?_
  refine own_aloadN X0 own_d5_14 (pc' := 15) rfl (v := (.ref a2)) rfl rfl ?_
  refine own_iload X0 own_d5_15 (pc' := 17) rfl (v := (0 : Int32)) rfl ?_
  refine own_iaload X0 V_a2 (by decide) (by decide) (y := x0) rfl own_d5_17 (pc' := 18) rfl ?_
  refine own_istore X0 own_d5_18 (pc' := 20) rfl (y := x0) rfl (Ls' := #[.val (.ref a1), .val (.ref a2), .val (.ref a2), .val (.int (2 : Int32)), .val (.int (0 : Int32)), .val (.int x0)]) rfl ?_
  refine own_iload X0 own_d5_20 (pc' := 22) rfl (v := x0) rfl ?_
  refine own_iconst X0 own_d5_22 (pc' := 23) rfl (z := (1 : Int32)) rfl ?_
  have hk2 : ¬ (x0 < (1 : Int32)) := h1
  refine own_icmpY X0 own_d5_23 (flt hk2).2.1 (by decide) (pc' := 67) rfl ?_
  refine own_iinc X0 own_d5_67 (pc' := 70) rfl (x := (0 : Int32)) rfl (z := (1 : Int32)) (by decide) (Ls' := #[.val (.ref a1), .val (.ref a2), .val (.ref a2), .val (.int (2 : Int32)), .val (.int (1 : Int32)), .val (.int x0)]) rfl ?_
  refine own_goto X0 own_d5_70 (by decide) (pc' := 8) rfl ?_
  refine own_iload X0 own_d5_8 (pc' := 10) rfl (v := (1 : Int32)) rfl ?_
  refine own_iloadN X0 own_d5_10 (pc' := 11) rfl (v := (2 : Int32)) rfl ?_
  have hk3 : (1 : Int32) < (2 : Int32) := (by decide)
  refine own_icmpN X0 own_d5_11 (tlt hk3).2.1 (pc' := 14) rfl ?_
  refine own_aloadN X0 own_d5_14 (pc' := 15) rfl (v := (.ref a2)) rfl rfl ?_
  refine own_iload X0 own_d5_15 (pc' := 17) rfl (v := (1 : Int32)) rfl ?_
  refine own_iaload X0 V_a2 (by decide) (by decide) (y := x1) rfl own_d5_17 (pc' := 18) rfl ?_
  refine own_istore X0 own_d5_18 (pc' := 20) rfl (y := x1) rfl (Ls' := #[.val (.ref a1), .val (.ref a2), .val (.ref a2), .val (.int (2 : Int32)), .val (.int (1 : Int32)), .val (.int x1)]) rfl ?_
  refine own_iload X0 own_d5_20 (pc' := 22) rfl (v := x1) rfl ?_
  refine own_iconst X0 own_d5_22 (pc' := 23) rfl (z := (1 : Int32)) rfl ?_
  have hk4 : ¬ (x1 < (1 : Int32)) := h2
  refine own_icmpY X0 own_d5_23 (flt hk4).2.1 (by decide) (pc' := 67) rfl ?_
  refine own_iinc X0 own_d5_67 (pc' := 70) rfl (x := (1 : Int32)) rfl (z := (2 : Int32)) (by decide) (Ls' := #[.val (.ref a1), .val (.ref a2), .val (.ref a2), .val (.int (2 : Int32)), .val (.int (2 : Int32)), .val (.int x1)]) rfl ?_
  refine own_goto X0 own_d5_70 (by decide) (pc' := 8) rfl ?_
  refine own_iload X0 own_d5_8 (pc' := 10) rfl (v := (2 : Int32)) rfl ?_
  refine own_iloadN X0 own_d5_10 (pc' := 11) rfl (v := (2 : Int32)) rfl ?_
  have hk5 : ¬ ((2 : Int32) < (2 : Int32)) := (by decide)
  refine own_icmpY X0 own_d5_11 (flt hk5).2.1 (by decide) (pc' := 73) rfl ?_
  refine own_vret X0 hret own_d5_73 (by decide) (by decide) ?_
  exact ⟨rfl, rfl⟩
theorem own_pd0 : parseMethodDescriptor "()V" = some ⟨[], none⟩ := by decide +kernel
theorem own_pd1 : parseMethodDescriptor "(Ljava/lang/String;[I)V" = some ⟨[(.object "java/lang/String"), (.array .int)], none⟩ := by decide +kernel
theorem own_d2_0 : decode prog_20_method_1_code 0 = .ok (.aload_n 0, 1) := by decide +kernel
theorem own_d2_1 : decode prog_20_method_1_code 1 = .ok (.invokespecial 1, 3) := by decide +kernel
theorem own_d2_4 : decode prog_20_method_1_code 4 = .ok (.ldc 7, 2) := by decide +kernel
theorem own_d2_6 : decode prog_20_method_1_code 6 = .ok (.iconst 2, 1) := by decide +kernel
theorem own_d2_7 : decode prog_20_method_1_code 7 = .ok (.newarray .int, 2) := by decide +kernel
theorem own_d2_9 : decode prog_20_method_1_code 9 = .ok (.dup, 1) := by decide +kernel
theorem own_d2_10 : decode prog_20_method_1_code 10 = .ok (.iconst 0, 1) := by decide +kernel
theorem own_d2_11 : decode prog_20_method_1_code 11 = .ok (.iload_n 1, 1) := by decide +kernel
theorem own_d2_12 : decode prog_20_method_1_code 12 = .ok (.iastore, 1) := by decide +kernel
theorem own_d2_13 : decode prog_20_method_1_code 13 = .ok (.dup, 1) := by decide +kernel
theorem own_d2_14 : decode prog_20_method_1_code 14 = .ok (.iconst 1, 1) := by decide +kernel
theorem own_d2_15 : decode prog_20_method_1_code 15 = .ok (.iload_n 2, 1) := by decide +kernel
theorem own_d2_16 : decode prog_20_method_1_code 16 = .ok (.iastore, 1) := by decide +kernel
theorem own_d2_17 : decode prog_20_method_1_code 17 = .ok (.invokestatic 9, 3) := by decide +kernel
theorem own_d2_20 : decode prog_20_method_1_code 20 = .ok (.aload_n 0, 1) := by decide +kernel
theorem own_d2_21 : decode prog_20_method_1_code 21 = .ok (.iload_n 1, 1) := by decide +kernel
theorem own_d2_22 : decode prog_20_method_1_code 22 = .ok (.putfield 15, 3) := by decide +kernel
theorem own_d2_25 : decode prog_20_method_1_code 25 = .ok (.aload_n 0, 1) := by decide +kernel
theorem own_d2_26 : decode prog_20_method_1_code 26 = .ok (.iload_n 2, 1) := by decide +kernel
theorem own_d2_27 : decode prog_20_method_1_code 27 = .ok (.putfield 21, 3) := by decide +kernel
theorem own_d2_30 : decode prog_20_method_1_code 30 = .ok (.return_, 1) := by decide +kernel
theorem own_ef2 (a1 : Addr) (p2 : Int32) (p3 : Int32) (m : MethodId) : entryFrame m #[(.ref a1), (.int p2), (.int p3)] 3 = mkF m 0 #[.val (.ref a1), .val (.int p2), .val (.int p3)] [] := by first | (simp [entryFrame, mkF, argsToLocals, Value.category]; done) | rfl
theorem own_pf2 : plainFor (⟨"com/example/moratuwa/moratuwa/limit/FixedWindow", "<init>", "(II)V"⟩ : MethodName) = true := by first | exact plainFor_of_name (by first | (simp [plainName, overriddenIn]; done) | decide +kernel) | decide +kernel
theorem own_wS {Z : State} {a0 : Array Value} (hw : ∀ d ∈ tables_1, d.before a0 Z = true) : ∀ a ∈ Bundle.stringAtoms, a.before a0 Z = true := fun a ha => by
  simp only [Bundle.stringAtoms, List.mem_cons, List.not_mem_nil, or_false] at ha
  rcases ha with rfl | rfl | rfl | rfl | rfl | rfl | rfl
  · exact hw _ (List.mem_of_getElem? (i := 20) rfl)
  · exact hw _ (List.mem_of_getElem? (i := 21) rfl)
  · exact hw _ (List.mem_of_getElem? (i := 22) rfl)
  · exact hw _ (List.mem_of_getElem? (i := 23) rfl)
  · exact hw _ (List.mem_of_getElem? (i := 24) rfl)
  · exact hw _ (List.mem_of_getElem? (i := 25) rfl)
  · exact hw _ (List.mem_of_getElem? (i := 26) rfl)
set_option maxRecDepth 65536 in
set_option maxHeartbeats 40000000 in
theorem own_rm2 (l : Launch) (Z : State) (a0 : Array Value) (hw : ∀ d ∈ tables_1, d.before a0 Z = true) (a1 : Addr) (p2 : Int32) (p3 : Int32) (h0 : Heap) (n0 : Nat) (Z0 : n0 ≤ h0.size) (E_a1 : Exa Z h0 a1 "com/example/moratuwa/moratuwa/limit/FixedWindow") (F_limit_a1 : Fld Z h0 a1 "com/example/moratuwa/moratuwa/limit/FixedWindow" "limit" "I" (.int (0 : Int32))) (F_windowSeconds_a1 : Fld Z h0 a1 "com/example/moratuwa/moratuwa/limit/FixedWindow" "windowSeconds" "I" (.int (0 : Int32))) (g_a1 : n0 ≤ a1) (h1 : ¬ p2 < (1 : Int32)) (h2 : ¬ p3 < (1 : Int32)) :
    own_ConW l Z (⟨"com/example/moratuwa/moratuwa/limit/FixedWindow", "<init>", "(II)V"⟩ : MethodName) prog_20_method_1_code 3 none ({ frames := 2, cells := 3, slots := 70, locals := 24 } : Room) #[(.ref a1), (.int p2), (.int p3)] h0 n0 (fun v h => v = none ∧ Keep h0 h [a1] ∧ Fld Z h a1 "com/example/moratuwa/moratuwa/limit/FixedWindow" "limit" "I" (.int p2) ∧ Fld Z h a1 "com/example/moratuwa/moratuwa/limit/FixedWindow" "windowSeconds" "I" (.int p3)) := by
  refine own_enterW own_pf2 Z0 (own_ef2 a1 p2 p3) ?_
  intro p e s m below meth c T0 X0 hS0 hret hnm
  refine own_aloadN X0 own_d2_0 (pc' := 1) rfl (v := (.ref a1)) rfl rfl ?_
  refine own_callI X0 (a := a1) (argsL := []) (S := []) (own_rm3 l Z a0 hw a1 h0 n0 X0.2.2.2.2.2.2.2.2.1 ) rfl (hw _ (List.mem_of_getElem? (i := 11) rfl)) (hw _ (List.mem_of_getElem? (i := 12) rfl)) (hw _ (List.mem_of_getElem? (i := 14) rfl)) (hw _ (List.mem_of_getElem? (i := 15) rfl)) (by decide) (by decide) 0 (by decide) rfl own_pd0 rfl rfl (Nat.le_of_eq rfl) (by decide) (by decide) own_d2_1 (pc' := 4) rfl fun T1 h2 lc3 r4 X5 Q6 => ?_
  obtain ⟨rfl, e7⟩ := Q6
  replace e7 := e7.symm
  subst e7
  show own_E p e below _ (T1.setTop (mkF m 4 #[.val (.ref a1), .val (.int p2), .val (.int p3)] []))
  refine own_ldcS X5 hS0 (Nat.zero_le _) (hw _ (List.mem_of_getElem? (i := 19) rfl)) (own_wS hw) 64 (by decide) (by decide) (by decide) (by decide) own_d2_4 (pc' := 6) rfl fun b8 T9 h10 vm11 k12 X13 Ex14 hS15 hk16 => ?_
  have hk17 := Nat.le_trans (Nat.zero_le _) Ex14.1
  have A18 := Exa.ext Ex14 E_a1
  have F19 := Fld.ext Ex14 F_limit_a1
  have F20 := Fld.ext Ex14 F_windowSeconds_a1
  have K21 := Keep.ext (Keep.refl h0 [a1]) Ex14
  refine own_iconst X13 own_d2_6 (pc' := 7) rfl (z := (2 : Int32)) rfl ?_
  refine own_newV X13 rfl rfl (hw _ (List.mem_of_getElem? (i := 27) rfl)) (by decide) 2 (by decide) (by decide) (by decide) (by decide) own_d2_7 (pc' := 9) rfl fun T23 h24 b22 X25 Ex26 hs27 g28 V29 => ?_
  have sz30 : h0.size ≤ b22 := Nat.le_trans K21.1 (Nat.le_of_eq hs27)
  have ne31 : a1 ≠ b22 := Nat.ne_of_lt (Nat.lt_of_lt_of_eq A18.lt hs27)
  have hk32 := Nat.le_trans hk16 Ex26.1
  have A33 := Exa.ext Ex26 A18
  have F34 := Fld.ext Ex26 F19
  have F35 := Fld.ext Ex26 F20
  replace V29 : own_V Z h24 b22 .int (2 : Int32) [(0 : Int32), (0 : Int32)] := V29
  have K36 := Keep.ext K21 Ex26
  refine own_dup X25 own_d2_9 (pc' := 10) rfl rfl ?_
  refine own_iconst X25 own_d2_10 (pc' := 11) rfl (z := (0 : Int32)) rfl ?_
  refine own_iloadN X25 own_d2_11 (pc' := 12) rfl (v := p2) rfl ?_
  refine own_iastore X25 V29 g28 (x := p2) rfl 0 rfl (by decide) (by decide) own_d2_12 (pc' := 13) rfl fun T37 h38 lc40 X39 W41 V42 => ?_
  replace V42 : own_V Z h38 b22 .int (2 : Int32) [p2, (0 : Int32)] := V42
  have hk43 := Nat.le_trans hk32 (Nat.le_of_eq (Wr.size W41).symm)
  have A44 := Exa.wr W41 A33
  have F45 := Fld.other W41 F34 (Or.inl ne31)
  have F46 := Fld.other W41 F35 (Or.inl ne31)
  have K47 := Keep.wr K36 W41 (Or.inr sz30)
  refine own_dup X39 own_d2_13 (pc' := 14) rfl rfl ?_
  refine own_iconst X39 own_d2_14 (pc' := 15) rfl (z := (1 : Int32)) rfl ?_
  refine own_iloadN X39 own_d2_15 (pc' := 16) rfl (v := p3) rfl ?_
  refine own_iastore X39 V42 g28 (x := p3) rfl 1 rfl (by decide) (by decide) own_d2_16 (pc' := 17) rfl fun T48 h49 lc51 X50 W52 V53 => ?_
  replace V53 : own_V Z h49 b22 .int (2 : Int32) [p2, p3] := V53
  have hk54 := Nat.le_trans hk43 (Nat.le_of_eq (Wr.size W52).symm)
  have A55 := Exa.wr W52 A44
  have F56 := Fld.other W52 F45 (Or.inl ne31)
  have F57 := Fld.other W52 F46 (Or.inl ne31)
  have K58 := Keep.wr K47 W52 (Or.inr sz30)
  refine own_callS X50 (argsL := [(.ref b8), (.ref b22)]) (S := []) (own_rm5 l Z a0 hw b8 b22 p2 p3 h49 n0 X50.2.2.2.2.2.2.2.2.1 V53 h1 h2) (hw _ (List.mem_of_getElem? (i := 28) rfl)) (hw _ (List.mem_of_getElem? (i := 29) rfl)) (hw _ (List.mem_of_getElem? (i := 30) rfl)) (hw _ (List.mem_of_getElem? (i := 31) rfl)) (by decide) (by decide) 0 (by decide) rfl own_pd1 rfl rfl (Nat.le_of_eq rfl) (by decide) (by decide) own_d2_17 (pc' := 20) rfl fun T59 h60 lc61 r62 X63 Q64 => ?_
  obtain ⟨rfl, e65⟩ := Q64
  replace e65 := e65.symm
  subst e65
  show own_E p e below _ (T59.setTop (mkF m 20 #[.val (.ref a1), .val (.int p2), .val (.int p3)] []))
  refine own_aloadN X63 own_d2_20 (pc' := 21) rfl (v := (.ref a1)) rfl rfl ?_
  refine own_iloadN X63 own_d2_21 (pc' := 22) rfl (v := p2) rfl ?_
  refine own_putF X63 (hw _ (List.mem_of_getElem? (i := 32) rfl)) F56 A55 (Or.inr ⟨(hw _ (List.mem_of_getElem? (i := 33) rfl)), rfl, hnm⟩) (hw _ (List.mem_of_getElem? (i := 6) rfl)) (ty := .int) (by decide) rfl rfl g_a1 own_d2_22 (pc' := 25) rfl fun T66 h67 lc69 X68 W70 F71 => ?_
  have hk72 := Nat.le_trans hk54 (Nat.le_of_eq (Wr.size W70).symm)
  have V73 := V53.other W70 (Ne.symm ne31)
  have A74 := Exa.wr W70 A55
  have F75 := Fld.other W70 F57 (Or.inr (slot_ne (Or.inr (hw _ (List.mem_of_getElem? (i := 35) rfl))) (Or.inr (hw _ (List.mem_of_getElem? (i := 33) rfl))) (by decide) (t := .int) (t' := .int) (by decide) (by decide)))
  have K76 := Keep.wr K58 W70 (Or.inl (List.mem_of_getElem? (i := 0) rfl))
  refine own_aloadN X68 own_d2_25 (pc' := 26) rfl (v := (.ref a1)) rfl rfl ?_
  refine own_iloadN X68 own_d2_26 (pc' := 27) rfl (v := p3) rfl ?_
  refine own_putF X68 (hw _ (List.mem_of_getElem? (i := 34) rfl)) F75 A74 (Or.inr ⟨(hw _ (List.mem_of_getElem? (i := 35) rfl)), rfl, hnm⟩) (hw _ (List.mem_of_getElem? (i := 6) rfl)) (ty := .int) (by decide) rfl rfl g_a1 own_d2_27 (pc' := 30) rfl fun T77 h78 lc80 X79 W81 F82 => ?_
  have hk83 := Nat.le_trans hk72 (Nat.le_of_eq (Wr.size W81).symm)
  have V84 := V73.other W81 (Ne.symm ne31)
  have A85 := Exa.wr W81 A74
  have F86 := Fld.other W81 F71 (Or.inr (slot_ne (Or.inr (hw _ (List.mem_of_getElem? (i := 33) rfl))) (Or.inr (hw _ (List.mem_of_getElem? (i := 35) rfl))) (by decide) (t := .int) (t' := .int) (by decide) (by decide)))
  have K87 := Keep.wr K76 W81 (Or.inl (List.mem_of_getElem? (i := 0) rfl))
  refine own_vretW X79 hS15 hk83 hret own_d2_30 (by decide) (by decide) ?_
  exact ⟨rfl, K87, F86, F82⟩
theorem own_d7_0 : decode jdk_29_method_49_code 0 = .ok (.lload_n 0, 1) := by decide +kernel
theorem own_d7_1 : decode jdk_29_method_49_code 1 = .ok (.lload_n 2, 1) := by decide +kernel
theorem own_d7_2 : decode jdk_29_method_49_code 2 = .ok (.ldiv, 1) := by decide +kernel
theorem own_d7_3 : decode jdk_29_method_49_code 3 = .ok (.lstore 4, 2) := by decide +kernel
theorem own_d7_5 : decode jdk_29_method_49_code 5 = .ok (.lload_n 0, 1) := by decide +kernel
theorem own_d7_6 : decode jdk_29_method_49_code 6 = .ok (.lload_n 2, 1) := by decide +kernel
theorem own_d7_7 : decode jdk_29_method_49_code 7 = .ok (.lxor, 1) := by decide +kernel
theorem own_d7_8 : decode jdk_29_method_49_code 8 = .ok (.lconst 0, 1) := by decide +kernel
theorem own_d7_9 : decode jdk_29_method_49_code 9 = .ok (.lcmp, 1) := by decide +kernel
theorem own_d7_10 : decode jdk_29_method_49_code 10 = .ok (.ifCond .ge 17, 3) := by decide +kernel
theorem own_d7_13 : decode jdk_29_method_49_code 13 = .ok (.lload 4, 2) := by decide +kernel
theorem own_d7_15 : decode jdk_29_method_49_code 15 = .ok (.lload_n 2, 1) := by decide +kernel
theorem own_d7_16 : decode jdk_29_method_49_code 16 = .ok (.lmul, 1) := by decide +kernel
theorem own_d7_17 : decode jdk_29_method_49_code 17 = .ok (.lload_n 0, 1) := by decide +kernel
theorem own_d7_18 : decode jdk_29_method_49_code 18 = .ok (.lcmp, 1) := by decide +kernel
theorem own_d7_19 : decode jdk_29_method_49_code 19 = .ok (.ifCond .eq 8, 3) := by decide +kernel
theorem own_d7_22 : decode jdk_29_method_49_code 22 = .ok (.lload 4, 2) := by decide +kernel
theorem own_d7_24 : decode jdk_29_method_49_code 24 = .ok (.lconst 1, 1) := by decide +kernel
theorem own_d7_25 : decode jdk_29_method_49_code 25 = .ok (.lsub, 1) := by decide +kernel
theorem own_d7_26 : decode jdk_29_method_49_code 26 = .ok (.lreturn, 1) := by decide +kernel
theorem own_d7_27 : decode jdk_29_method_49_code 27 = .ok (.lload 4, 2) := by decide +kernel
theorem own_d7_29 : decode jdk_29_method_49_code 29 = .ok (.lreturn, 1) := by decide +kernel
theorem own_ef7 (q1 : Int64) (q2 : Int64) (m : MethodId) : entryFrame m #[(.long q1), (.long q2)] 6 = mkF m 0 #[.val (.long q1), .second, .val (.long q2), .second, .unset, .unset] [] := by first | (simp [entryFrame, mkF, argsToLocals, Value.category]; done) | rfl
theorem own_pf7 : plainFor (⟨"java/lang/Math", "floorDiv", "(JJ)J"⟩ : MethodName) = true := Jvm.Free.JP.mathPlain rfl (by decide +kernel)
def own_F7 (q1 : Int64) (q2 : Int64) : Int64 := (if (q1 ^^^ q2) < (0 : Int64) then (if ((q1 / q2) * q2) = q1 then (q1 / q2) else ((q1 / q2) - (1 : Int64))) else (q1 / q2))
set_option maxRecDepth 65536 in
set_option maxHeartbeats 40000000 in
theorem own_rm7 (l : Launch) (Z : State) (a0 : Array Value) (hw : ∀ d ∈ tables_1, d.before a0 Z = true) (q1 : Int64) (q2 : Int64) (h0 : Heap) (n0 : Nat) (Z0 : n0 ≤ h0.size) (hz : q2 ≠ (0 : Int64)) :
    own_Con l Z (⟨"java/lang/Math", "floorDiv", "(JJ)J"⟩ : MethodName) jdk_29_method_49_code 6 (some .long) ({ frames := 0, cells := 0, slots := 0, locals := 0 } : Room) #[(.long q1), (.long q2)] h0 n0 (fun v h => v = some (.long (own_F7 q1 q2)) ∧ h = h0) := by
  refine own_enter own_pf7 Z0 (own_ef7 q1 q2) ?_
  intro p e s m below meth c T0 X0 hret hnm
  refine own_lloadN X0 own_d7_0 (pc' := 1) rfl (v := q1) rfl ?_
  refine own_lloadN X0 own_d7_1 (pc' := 2) rfl (v := q2) rfl ?_
  refine own_ldiv X0 own_d7_2 (pc' := 3) rfl hz (z := (q1 / q2)) rfl ?_
  refine own_lstore X0 own_d7_3 (pc' := 5) rfl (y := (q1 / q2)) rfl (Ls' := #[.val (.long q1), .second, .val (.long q2), .second, .val (.long (q1 / q2)), .second]) rfl ?_
  refine own_lloadN X0 own_d7_5 (pc' := 6) rfl (v := q1) rfl ?_
  refine own_lloadN X0 own_d7_6 (pc' := 7) rfl (v := q2) rfl ?_
  refine own_lxor X0 own_d7_7 (pc' := 8) rfl (z := (q1 ^^^ q2)) rfl ?_
  refine own_lconst X0 own_d7_8 (pc' := 9) rfl (z := (0 : Int64)) rfl ?_
  by_cases hc1 : (q1 ^^^ q2) < (0 : Int64)
  · refine own_ljN X0 own_d7_9 rfl own_d7_10 (own_tltL hc1).2.1 (pc' := 13) rfl ?_
    refine own_lload X0 own_d7_13 (pc' := 15) rfl (v := (q1 / q2)) rfl ?_
    refine own_lloadN X0 own_d7_15 (pc' := 16) rfl (v := q2) rfl ?_
    refine own_lmul X0 own_d7_16 (pc' := 17) rfl (z := ((q1 / q2) * q2)) rfl ?_
    refine own_lloadN X0 own_d7_17 (pc' := 18) rfl (v := q1) rfl ?_
    by_cases hc2 : ((q1 / q2) * q2) = q1
    · refine own_ljY X0 own_d7_18 rfl own_d7_19 (own_teqL hc2).1 (by decide) (pc' := 27) rfl ?_
      refine own_lload X0 own_d7_27 (pc' := 29) rfl (v := (q1 / q2)) rfl ?_
      refine own_lret X0 hret own_d7_29 (by decide) (by decide) ?_
      exact ⟨congrArg (fun t => some (Value.long t)) (show (q1 / q2) = own_F7 q1 q2 from (by rw [own_F7, if_pos hc1, if_pos hc2])), rfl⟩
    · refine own_ljN X0 own_d7_18 rfl own_d7_19 (own_feqL hc2).1 (pc' := 22) rfl ?_
      refine own_lload X0 own_d7_22 (pc' := 24) rfl (v := (q1 / q2)) rfl ?_
      refine own_lconst X0 own_d7_24 (pc' := 25) rfl (z := (1 : Int64)) rfl ?_
      refine own_lsub X0 own_d7_25 (pc' := 26) rfl (z := ((q1 / q2) - (1 : Int64))) rfl ?_
      refine own_lret X0 hret own_d7_26 (by decide) (by decide) ?_
      exact ⟨congrArg (fun t => some (Value.long t)) (show ((q1 / q2) - (1 : Int64)) = own_F7 q1 q2 from (by rw [own_F7, if_pos hc1, if_neg hc2])), rfl⟩
  · refine own_ljY X0 own_d7_9 rfl own_d7_10 (own_fltL hc1).2.1 (by decide) (pc' := 27) rfl ?_
    refine own_lload X0 own_d7_27 (pc' := 29) rfl (v := (q1 / q2)) rfl ?_
    refine own_lret X0 hret own_d7_29 (by decide) (by decide) ?_
    exact ⟨congrArg (fun t => some (Value.long t)) (show (q1 / q2) = own_F7 q1 q2 from (by rw [own_F7, if_neg hc1])), rfl⟩
theorem own_d9_0 : decode prog_19_method_3_code 0 = .ok (.lload_n 0, 1) := by decide +kernel
theorem own_d9_1 : decode prog_19_method_3_code 1 = .ok (.lconst 0, 1) := by decide +kernel
theorem own_d9_2 : decode prog_19_method_3_code 2 = .ok (.lcmp, 1) := by decide +kernel
theorem own_d9_3 : decode prog_19_method_3_code 3 = .ok (.ifCond .gt 7, 3) := by decide +kernel
theorem own_d9_6 : decode prog_19_method_3_code 6 = .ok (.lconst 1, 1) := by decide +kernel
theorem own_d9_7 : decode prog_19_method_3_code 7 = .ok (.goto 12, 3) := by decide +kernel
theorem own_d9_10 : decode prog_19_method_3_code 10 = .ok (.lload_n 0, 1) := by decide +kernel
theorem own_d9_11 : decode prog_19_method_3_code 11 = .ok (.lconst 1, 1) := by decide +kernel
theorem own_d9_12 : decode prog_19_method_3_code 12 = .ok (.lsub, 1) := by decide +kernel
theorem own_d9_13 : decode prog_19_method_3_code 13 = .ok (.ldc2_w 34, 3) := by decide +kernel
theorem own_d9_16 : decode prog_19_method_3_code 16 = .ok (.ldiv, 1) := by decide +kernel
theorem own_d9_17 : decode prog_19_method_3_code 17 = .ok (.lconst 1, 1) := by decide +kernel
theorem own_d9_18 : decode prog_19_method_3_code 18 = .ok (.ladd, 1) := by decide +kernel
theorem own_d9_19 : decode prog_19_method_3_code 19 = .ok (.lreturn, 1) := by decide +kernel
theorem own_ef9 (q1 : Int64) (m : MethodId) : entryFrame m #[(.long q1)] 2 = mkF m 0 #[.val (.long q1), .second] [] := by first | (simp [entryFrame, mkF, argsToLocals, Value.category]; done) | rfl
theorem own_pf9 : plainFor (⟨"com/example/moratuwa/moratuwa/limit/Decision", "seconds", "(J)J"⟩ : MethodName) = true := by first | exact plainFor_of_name (by first | (simp [plainName, overriddenIn]; done) | decide +kernel) | decide +kernel
def own_F9 (q1 : Int64) : Int64 := (if (0 : Int64) < q1 then (((q1 - (1 : Int64)) / (1000000 : Int64)) + (1 : Int64)) else (1 : Int64))
set_option maxRecDepth 65536 in
set_option maxHeartbeats 40000000 in
theorem own_rm9 (l : Launch) (Z : State) (a0 : Array Value) (hw : ∀ d ∈ tables_1, d.before a0 Z = true) (q1 : Int64) (h0 : Heap) (n0 : Nat) (Z0 : n0 ≤ h0.size) :
    own_Con l Z (⟨"com/example/moratuwa/moratuwa/limit/Decision", "seconds", "(J)J"⟩ : MethodName) prog_19_method_3_code 2 (some .long) ({ frames := 0, cells := 0, slots := 0, locals := 0 } : Room) #[(.long q1)] h0 n0 (fun v h => v = some (.long (own_F9 q1)) ∧ h = h0) := by
  refine own_enter own_pf9 Z0 (own_ef9 q1) ?_
  intro p e s m below meth c T0 X0 hret hnm
  refine own_lloadN X0 own_d9_0 (pc' := 1) rfl (v := q1) rfl ?_
  refine own_lconst X0 own_d9_1 (pc' := 2) rfl (z := (0 : Int64)) rfl ?_
  by_cases hc1 : (0 : Int64) < q1
  · refine own_ljY X0 own_d9_2 rfl own_d9_3 (own_tltL hc1).2.2.1 (by decide) (pc' := 10) rfl ?_
    refine own_lloadN X0 own_d9_10 (pc' := 11) rfl (v := q1) rfl ?_
    refine own_lconst X0 own_d9_11 (pc' := 12) rfl (z := (1 : Int64)) rfl ?_
    refine own_lsub X0 own_d9_12 (pc' := 13) rfl (z := (q1 - (1 : Int64))) rfl ?_
    refine own_ldc2 X0 (hw _ (List.mem_of_getElem? (i := 52) rfl)) own_d9_13 (pc' := 16) rfl ?_
    refine own_ldiv X0 own_d9_16 (pc' := 17) rfl (by decide) (z := ((q1 - (1 : Int64)) / (1000000 : Int64))) rfl ?_
    refine own_lconst X0 own_d9_17 (pc' := 18) rfl (z := (1 : Int64)) rfl ?_
    refine own_ladd X0 own_d9_18 (pc' := 19) rfl (z := (((q1 - (1 : Int64)) / (1000000 : Int64)) + (1 : Int64))) rfl ?_
    refine own_lret X0 hret own_d9_19 (by decide) (by decide) ?_
    exact ⟨congrArg (fun t => some (Value.long t)) (show (((q1 - (1 : Int64)) / (1000000 : Int64)) + (1 : Int64)) = own_F9 q1 from (by rw [own_F9, if_pos hc1])), rfl⟩
  · refine own_ljN X0 own_d9_2 rfl own_d9_3 (own_fltL hc1).2.2.1 (pc' := 6) rfl ?_
    refine own_lconst X0 own_d9_6 (pc' := 7) rfl (z := (1 : Int64)) rfl ?_
    refine own_goto X0 own_d9_7 (by decide) (pc' := 19) rfl ?_
    refine own_lret X0 hret own_d9_19 (by decide) (by decide) ?_
    exact ⟨congrArg (fun t => some (Value.long t)) (show (1 : Int64) = own_F9 q1 from (by rw [own_F9, if_neg hc1])), rfl⟩
theorem own_d10_0 : decode prog_19_method_1_code 0 = .ok (.aload_n 0, 1) := by decide +kernel
theorem own_d10_1 : decode prog_19_method_1_code 1 = .ok (.invokespecial 1, 3) := by decide +kernel
theorem own_d10_4 : decode prog_19_method_1_code 4 = .ok (.aload_n 0, 1) := by decide +kernel
theorem own_d10_5 : decode prog_19_method_1_code 5 = .ok (.lload_n 1, 1) := by decide +kernel
theorem own_d10_6 : decode prog_19_method_1_code 6 = .ok (.putfield 7, 3) := by decide +kernel
theorem own_d10_9 : decode prog_19_method_1_code 9 = .ok (.aload_n 0, 1) := by decide +kernel
theorem own_d10_10 : decode prog_19_method_1_code 10 = .ok (.iload_n 3, 1) := by decide +kernel
theorem own_d10_11 : decode prog_19_method_1_code 11 = .ok (.putfield 13, 3) := by decide +kernel
theorem own_d10_14 : decode prog_19_method_1_code 14 = .ok (.aload_n 0, 1) := by decide +kernel
theorem own_d10_15 : decode prog_19_method_1_code 15 = .ok (.iload 4, 2) := by decide +kernel
theorem own_d10_17 : decode prog_19_method_1_code 17 = .ok (.putfield 17, 3) := by decide +kernel
theorem own_d10_20 : decode prog_19_method_1_code 20 = .ok (.aload_n 0, 1) := by decide +kernel
theorem own_d10_21 : decode prog_19_method_1_code 21 = .ok (.lload 5, 2) := by decide +kernel
theorem own_d10_23 : decode prog_19_method_1_code 23 = .ok (.putfield 21, 3) := by decide +kernel
theorem own_d10_26 : decode prog_19_method_1_code 26 = .ok (.aload_n 0, 1) := by decide +kernel
theorem own_d10_27 : decode prog_19_method_1_code 27 = .ok (.lload 7, 2) := by decide +kernel
theorem own_d10_29 : decode prog_19_method_1_code 29 = .ok (.putfield 24, 3) := by decide +kernel
theorem own_d10_32 : decode prog_19_method_1_code 32 = .ok (.return_, 1) := by decide +kernel
theorem own_ef10 (a1 : Addr) (q2 : Int64) (p3 : Int32) (p4 : Int32) (q5 : Int64) (q6 : Int64) (m : MethodId) : entryFrame m #[(.ref a1), (.long q2), (.int p3), (.int p4), (.long q5), (.long q6)] 9 = mkF m 0 #[.val (.ref a1), .val (.long q2), .second, .val (.int p3), .val (.int p4), .val (.long q5), .second, .val (.long q6), .second] [] := by first | (simp [entryFrame, mkF, argsToLocals, Value.category]; done) | rfl
theorem own_pf10 : plainFor (⟨"com/example/moratuwa/moratuwa/limit/Decision", "<init>", "(JZIJJ)V"⟩ : MethodName) = true := by first | exact plainFor_of_name (by first | (simp [plainName, overriddenIn]; done) | decide +kernel) | decide +kernel
set_option maxRecDepth 65536 in
set_option maxHeartbeats 40000000 in
theorem own_rm10 (l : Launch) (Z : State) (a0 : Array Value) (hw : ∀ d ∈ tables_1, d.before a0 Z = true) (a1 : Addr) (q2 : Int64) (p3 : Int32) (p4 : Int32) (q5 : Int64) (q6 : Int64) (h0 : Heap) (n0 : Nat) (Z0 : n0 ≤ h0.size) (E_a1 : Exa Z h0 a1 "com/example/moratuwa/moratuwa/limit/Decision") (F_timeMicros_a1 : Fld Z h0 a1 "com/example/moratuwa/moratuwa/limit/Decision" "timeMicros" "J" (.long (0 : Int64))) (F_allowed_a1 : Fld Z h0 a1 "com/example/moratuwa/moratuwa/limit/Decision" "allowed" "Z" (.int (0 : Int32))) (F_remaining_a1 : Fld Z h0 a1 "com/example/moratuwa/moratuwa/limit/Decision" "remaining" "I" (.int (0 : Int32))) (F_resetSeconds_a1 : Fld Z h0 a1 "com/example/moratuwa/moratuwa/limit/Decision" "resetSeconds" "J" (.long (0 : Int64))) (F_retryAfterSeconds_a1 : Fld Z h0 a1 "com/example/moratuwa/moratuwa/limit/Decision" "retryAfterSeconds" "J" (.long (0 : Int64))) (g_a1 : n0 ≤ a1) :
    own_Con l Z (⟨"com/example/moratuwa/moratuwa/limit/Decision", "<init>", "(JZIJJ)V"⟩ : MethodName) prog_19_method_1_code 9 none ({ frames := 2, cells := 0, slots := 0, locals := 24 } : Room) #[(.ref a1), (.long q2), (.int p3), (.int p4), (.long q5), (.long q6)] h0 n0 (fun v h => v = none ∧ Keep h0 h [a1] ∧ Fld Z h a1 "com/example/moratuwa/moratuwa/limit/Decision" "allowed" "Z" (.int (p3 &&& 1)) ∧ Fld Z h a1 "com/example/moratuwa/moratuwa/limit/Decision" "remaining" "I" (.int p4) ∧ Fld Z h a1 "com/example/moratuwa/moratuwa/limit/Decision" "resetSeconds" "J" (.long q5) ∧ Fld Z h a1 "com/example/moratuwa/moratuwa/limit/Decision" "retryAfterSeconds" "J" (.long q6) ∧ Fld Z h a1 "com/example/moratuwa/moratuwa/limit/Decision" "timeMicros" "J" (.long q2)) := by
  refine own_enter own_pf10 Z0 (own_ef10 a1 q2 p3 p4 q5 q6) ?_
  intro p e s m below meth c T0 X0 hret hnm
  refine own_aloadN X0 own_d10_0 (pc' := 1) rfl (v := (.ref a1)) rfl rfl ?_
  refine own_callI X0 (a := a1) (argsL := []) (S := []) (own_rm3 l Z a0 hw a1 h0 n0 X0.2.2.2.2.2.2.2.2.1 ) rfl (hw _ (List.mem_of_getElem? (i := 58) rfl)) (hw _ (List.mem_of_getElem? (i := 12) rfl)) (hw _ (List.mem_of_getElem? (i := 14) rfl)) (hw _ (List.mem_of_getElem? (i := 15) rfl)) (by decide) (by decide) 0 (by decide) rfl own_pd0 rfl rfl (Nat.le_of_eq rfl) (by decide) (by decide) own_d10_1 (pc' := 4) rfl fun T1 h2 lc3 r4 X5 Q6 => ?_
  obtain ⟨rfl, e7⟩ := Q6
  replace e7 := e7.symm
  subst e7
  show own_E p e below _ (T1.setTop (mkF m 4 #[.val (.ref a1), .val (.long q2), .second, .val (.int p3), .val (.int p4), .val (.long q5), .second, .val (.long q6), .second] []))
  refine own_aloadN X5 own_d10_4 (pc' := 5) rfl (v := (.ref a1)) rfl rfl ?_
  refine own_lloadN X5 own_d10_5 (pc' := 6) rfl (v := q2) rfl ?_
  refine own_putF X5 (hw _ (List.mem_of_getElem? (i := 59) rfl)) F_timeMicros_a1 E_a1 (Or.inr ⟨(hw _ (List.mem_of_getElem? (i := 60) rfl)), rfl, hnm⟩) (hw _ (List.mem_of_getElem? (i := 54) rfl)) (ty := .long) (by decide) rfl rfl g_a1 own_d10_6 (pc' := 9) rfl fun T8 h9 lc11 X10 W12 F13 => ?_
  have A14 := Exa.wr W12 E_a1
  have F15 := Fld.other W12 F_allowed_a1 (Or.inr (slot_ne (Or.inr (hw _ (List.mem_of_getElem? (i := 62) rfl))) (Or.inr (hw _ (List.mem_of_getElem? (i := 60) rfl))) (by decide) (t := .boolean) (t' := .long) (by decide) (by decide)))
  have F16 := Fld.other W12 F_remaining_a1 (Or.inr (slot_ne (Or.inr (hw _ (List.mem_of_getElem? (i := 64) rfl))) (Or.inr (hw _ (List.mem_of_getElem? (i := 60) rfl))) (by decide) (t := .int) (t' := .long) (by decide) (by decide)))
  have F17 := Fld.other W12 F_resetSeconds_a1 (Or.inr (slot_ne (Or.inr (hw _ (List.mem_of_getElem? (i := 66) rfl))) (Or.inr (hw _ (List.mem_of_getElem? (i := 60) rfl))) (by decide) (t := .long) (t' := .long) (by decide) (by decide)))
  have F18 := Fld.other W12 F_retryAfterSeconds_a1 (Or.inr (slot_ne (Or.inr (hw _ (List.mem_of_getElem? (i := 68) rfl))) (Or.inr (hw _ (List.mem_of_getElem? (i := 60) rfl))) (by decide) (t := .long) (t' := .long) (by decide) (by decide)))
  have K19 := Keep.wr (Keep.refl h0 [a1]) W12 (Or.inl (List.mem_of_getElem? (i := 0) rfl))
  refine own_aloadN X10 own_d10_9 (pc' := 10) rfl (v := (.ref a1)) rfl rfl ?_
  refine own_iloadN X10 own_d10_10 (pc' := 11) rfl (v := p3) rfl ?_
  refine own_putFN X10 (v' := (.int (p3 &&& 1))) (hw _ (List.mem_of_getElem? (i := 61) rfl)) F15 A14 (Or.inr ⟨(hw _ (List.mem_of_getElem? (i := 62) rfl)), rfl, hnm⟩) (hw _ (List.mem_of_getElem? (i := 54) rfl)) (ty := .boolean) (by decide) rfl (fits_nar_bool _) g_a1 own_d10_11 (pc' := 14) rfl fun T20 h21 lc23 X22 W24 F25 => ?_
  have A26 := Exa.wr W24 A14
  have F27 := Fld.other W24 F13 (Or.inr (slot_ne (Or.inr (hw _ (List.mem_of_getElem? (i := 60) rfl))) (Or.inr (hw _ (List.mem_of_getElem? (i := 62) rfl))) (by decide) (t := .long) (t' := .boolean) (by decide) (by decide)))
  have F28 := Fld.other W24 F16 (Or.inr (slot_ne (Or.inr (hw _ (List.mem_of_getElem? (i := 64) rfl))) (Or.inr (hw _ (List.mem_of_getElem? (i := 62) rfl))) (by decide) (t := .int) (t' := .boolean) (by decide) (by decide)))
  have F29 := Fld.other W24 F17 (Or.inr (slot_ne (Or.inr (hw _ (List.mem_of_getElem? (i := 66) rfl))) (Or.inr (hw _ (List.mem_of_getElem? (i := 62) rfl))) (by decide) (t := .long) (t' := .boolean) (by decide) (by decide)))
  have F30 := Fld.other W24 F18 (Or.inr (slot_ne (Or.inr (hw _ (List.mem_of_getElem? (i := 68) rfl))) (Or.inr (hw _ (List.mem_of_getElem? (i := 62) rfl))) (by decide) (t := .long) (t' := .boolean) (by decide) (by decide)))
  have K31 := Keep.wr K19 W24 (Or.inl (List.mem_of_getElem? (i := 0) rfl))
  refine own_aloadN X22 own_d10_14 (pc' := 15) rfl (v := (.ref a1)) rfl rfl ?_
  refine own_iload X22 own_d10_15 (pc' := 17) rfl (v := p4) rfl ?_
  refine own_putF X22 (hw _ (List.mem_of_getElem? (i := 63) rfl)) F28 A26 (Or.inr ⟨(hw _ (List.mem_of_getElem? (i := 64) rfl)), rfl, hnm⟩) (hw _ (List.mem_of_getElem? (i := 54) rfl)) (ty := .int) (by decide) rfl rfl g_a1 own_d10_17 (pc' := 20) rfl fun T32 h33 lc35 X34 W36 F37 => ?_
  have A38 := Exa.wr W36 A26
  have F39 := Fld.other W36 F27 (Or.inr (slot_ne (Or.inr (hw _ (List.mem_of_getElem? (i := 60) rfl))) (Or.inr (hw _ (List.mem_of_getElem? (i := 64) rfl))) (by decide) (t := .long) (t' := .int) (by decide) (by decide)))
  have F40 := Fld.other W36 F25 (Or.inr (slot_ne (Or.inr (hw _ (List.mem_of_getElem? (i := 62) rfl))) (Or.inr (hw _ (List.mem_of_getElem? (i := 64) rfl))) (by decide) (t := .boolean) (t' := .int) (by decide) (by decide)))
  have F41 := Fld.other W36 F29 (Or.inr (slot_ne (Or.inr (hw _ (List.mem_of_getElem? (i := 66) rfl))) (Or.inr (hw _ (List.mem_of_getElem? (i := 64) rfl))) (by decide) (t := .long) (t' := .int) (by decide) (by decide)))
  have F42 := Fld.other W36 F30 (Or.inr (slot_ne (Or.inr (hw _ (List.mem_of_getElem? (i := 68) rfl))) (Or.inr (hw _ (List.mem_of_getElem? (i := 64) rfl))) (by decide) (t := .long) (t' := .int) (by decide) (by decide)))
  have K43 := Keep.wr K31 W36 (Or.inl (List.mem_of_getElem? (i := 0) rfl))
  refine own_aloadN X34 own_d10_20 (pc' := 21) rfl (v := (.ref a1)) rfl rfl ?_
  refine own_lload X34 own_d10_21 (pc' := 23) rfl (v := q5) rfl ?_
  refine own_putF X34 (hw _ (List.mem_of_getElem? (i := 65) rfl)) F41 A38 (Or.inr ⟨(hw _ (List.mem_of_getElem? (i := 66) rfl)), rfl, hnm⟩) (hw _ (List.mem_of_getElem? (i := 54) rfl)) (ty := .long) (by decide) rfl rfl g_a1 own_d10_23 (pc' := 26) rfl fun T44 h45 lc47 X46 W48 F49 => ?_
  have A50 := Exa.wr W48 A38
  have F51 := Fld.other W48 F39 (Or.inr (slot_ne (Or.inr (hw _ (List.mem_of_getElem? (i := 60) rfl))) (Or.inr (hw _ (List.mem_of_getElem? (i := 66) rfl))) (by decide) (t := .long) (t' := .long) (by decide) (by decide)))
  have F52 := Fld.other W48 F40 (Or.inr (slot_ne (Or.inr (hw _ (List.mem_of_getElem? (i := 62) rfl))) (Or.inr (hw _ (List.mem_of_getElem? (i := 66) rfl))) (by decide) (t := .boolean) (t' := .long) (by decide) (by decide)))
  have F53 := Fld.other W48 F37 (Or.inr (slot_ne (Or.inr (hw _ (List.mem_of_getElem? (i := 64) rfl))) (Or.inr (hw _ (List.mem_of_getElem? (i := 66) rfl))) (by decide) (t := .int) (t' := .long) (by decide) (by decide)))
  have F54 := Fld.other W48 F42 (Or.inr (slot_ne (Or.inr (hw _ (List.mem_of_getElem? (i := 68) rfl))) (Or.inr (hw _ (List.mem_of_getElem? (i := 66) rfl))) (by decide) (t := .long) (t' := .long) (by decide) (by decide)))
  have K55 := Keep.wr K43 W48 (Or.inl (List.mem_of_getElem? (i := 0) rfl))
  refine own_aloadN X46 own_d10_26 (pc' := 27) rfl (v := (.ref a1)) rfl rfl ?_
  refine own_lload X46 own_d10_27 (pc' := 29) rfl (v := q6) rfl ?_
  refine own_putF X46 (hw _ (List.mem_of_getElem? (i := 67) rfl)) F54 A50 (Or.inr ⟨(hw _ (List.mem_of_getElem? (i := 68) rfl)), rfl, hnm⟩) (hw _ (List.mem_of_getElem? (i := 54) rfl)) (ty := .long) (by decide) rfl rfl g_a1 own_d10_29 (pc' := 32) rfl fun T56 h57 lc59 X58 W60 F61 => ?_
  have A62 := Exa.wr W60 A50
  have F63 := Fld.other W60 F51 (Or.inr (slot_ne (Or.inr (hw _ (List.mem_of_getElem? (i := 60) rfl))) (Or.inr (hw _ (List.mem_of_getElem? (i := 68) rfl))) (by decide) (t := .long) (t' := .long) (by decide) (by decide)))
  have F64 := Fld.other W60 F52 (Or.inr (slot_ne (Or.inr (hw _ (List.mem_of_getElem? (i := 62) rfl))) (Or.inr (hw _ (List.mem_of_getElem? (i := 68) rfl))) (by decide) (t := .boolean) (t' := .long) (by decide) (by decide)))
  have F65 := Fld.other W60 F53 (Or.inr (slot_ne (Or.inr (hw _ (List.mem_of_getElem? (i := 64) rfl))) (Or.inr (hw _ (List.mem_of_getElem? (i := 68) rfl))) (by decide) (t := .int) (t' := .long) (by decide) (by decide)))
  have F66 := Fld.other W60 F49 (Or.inr (slot_ne (Or.inr (hw _ (List.mem_of_getElem? (i := 66) rfl))) (Or.inr (hw _ (List.mem_of_getElem? (i := 68) rfl))) (by decide) (t := .long) (t' := .long) (by decide) (by decide)))
  have K67 := Keep.wr K55 W60 (Or.inl (List.mem_of_getElem? (i := 0) rfl))
  refine own_vret X58 hret own_d10_32 (by decide) (by decide) ?_
  exact ⟨rfl, K67, F64, F65, F66, F61, F63⟩
theorem own_pd2 : parseMethodDescriptor "(J)J" = some ⟨[.long], some .long⟩ := by decide +kernel
theorem own_pd3 : parseMethodDescriptor "(JZIJJ)V" = some ⟨[.long, .boolean, .int, .long, .long], none⟩ := by decide +kernel
theorem own_d8_0 : decode prog_19_method_2_code 0 = .ok (.lload 4, 2) := by decide +kernel
theorem own_d8_2 : decode prog_19_method_2_code 2 = .ok (.lload_n 0, 1) := by decide +kernel
theorem own_d8_3 : decode prog_19_method_2_code 3 = .ok (.lsub, 1) := by decide +kernel
theorem own_d8_4 : decode prog_19_method_2_code 4 = .ok (.invokestatic 27, 3) := by decide +kernel
theorem own_d8_7 : decode prog_19_method_2_code 7 = .ok (.lstore 6, 2) := by decide +kernel
theorem own_d8_9 : decode prog_19_method_2_code 9 = .ok (.new 8, 3) := by decide +kernel
theorem own_d8_12 : decode prog_19_method_2_code 12 = .ok (.dup, 1) := by decide +kernel
theorem own_d8_13 : decode prog_19_method_2_code 13 = .ok (.lload_n 0, 1) := by decide +kernel
theorem own_d8_14 : decode prog_19_method_2_code 14 = .ok (.iload_n 2, 1) := by decide +kernel
theorem own_d8_15 : decode prog_19_method_2_code 15 = .ok (.iload_n 3, 1) := by decide +kernel
theorem own_d8_16 : decode prog_19_method_2_code 16 = .ok (.lload 6, 2) := by decide +kernel
theorem own_d8_18 : decode prog_19_method_2_code 18 = .ok (.lload 6, 2) := by decide +kernel
theorem own_d8_20 : decode prog_19_method_2_code 20 = .ok (.invokespecial 31, 3) := by decide +kernel
theorem own_d8_23 : decode prog_19_method_2_code 23 = .ok (.areturn, 1) := by decide +kernel
theorem own_ef8 (q1 : Int64) (p2 : Int32) (p3 : Int32) (q4 : Int64) (m : MethodId) : entryFrame m #[(.long q1), (.int p2), (.int p3), (.long q4)] 8 = mkF m 0 #[.val (.long q1), .second, .val (.int p2), .val (.int p3), .val (.long q4), .second, .unset, .unset] [] := by first | (simp [entryFrame, mkF, argsToLocals, Value.category]; done) | rfl
theorem own_pf8 : plainFor (⟨"com/example/moratuwa/moratuwa/limit/Decision", "of", "(JZIJ)Lcom/example/moratuwa/moratuwa/limit/Decision;"⟩ : MethodName) = true := by first | exact plainFor_of_name (by first | (simp [plainName, overriddenIn]; done) | decide +kernel) | decide +kernel
set_option maxRecDepth 65536 in
set_option maxHeartbeats 40000000 in
theorem own_rm8 (l : Launch) (Z : State) (a0 : Array Value) (hw : ∀ d ∈ tables_1, d.before a0 Z = true) (q1 : Int64) (p2 : Int32) (p3 : Int32) (q4 : Int64) (h0 : Heap) (n0 : Nat) (Z0 : n0 ≤ h0.size) :
    own_Con l Z (⟨"com/example/moratuwa/moratuwa/limit/Decision", "of", "(JZIJ)Lcom/example/moratuwa/moratuwa/limit/Decision;"⟩ : MethodName) prog_19_method_2_code 8 (some (.object "com/example/moratuwa/moratuwa/limit/Decision")) ({ frames := 3, cells := 1, slots := 5, locals := 45 } : Room) #[(.long q1), (.int p2), (.int p3), (.long q4)] h0 n0 (fun v h => ∃ b, v = some (.ref b) ∧ n0 ≤ b ∧ h0.size ≤ b ∧ Keep h0 h [] ∧ Exa Z h b "com/example/moratuwa/moratuwa/limit/Decision") := by
  refine own_enter own_pf8 Z0 (own_ef8 q1 p2 p3 q4) ?_
  intro p e s m below meth c T0 X0 hret hnm
  refine own_lload X0 own_d8_0 (pc' := 2) rfl (v := q4) rfl ?_
  refine own_lloadN X0 own_d8_2 (pc' := 3) rfl (v := q1) rfl ?_
  refine own_lsub X0 own_d8_3 (pc' := 4) rfl (z := (q4 - q1)) rfl ?_
  refine own_callS X0 (argsL := [(.long (q4 - q1))]) (S := []) (own_rm9 l Z a0 hw (q4 - q1) h0 n0 X0.2.2.2.2.2.2.2.2.1 ) (hw _ (List.mem_of_getElem? (i := 49) rfl)) (hw _ (List.mem_of_getElem? (i := 50) rfl)) (hw _ (List.mem_of_getElem? (i := 47) rfl)) (hw _ (List.mem_of_getElem? (i := 51) rfl)) (by decide) (by decide) 0 (by decide) rfl own_pd2 rfl rfl (Nat.le_of_eq rfl) (by decide) (by decide) own_d8_4 (pc' := 7) rfl fun T1 h2 lc3 r4 X5 Q6 => ?_
  obtain ⟨rfl, e7⟩ := Q6
  replace e7 := e7.symm
  subst e7
  show own_E p e below _ (T1.setTop (mkF m 7 #[.val (.long q1), .second, .val (.int p2), .val (.int p3), .val (.long q4), .second, .unset, .unset] [(.long (own_F9 (q4 - q1)))]))
  refine own_lstore X5 own_d8_7 (pc' := 9) rfl (y := (own_F9 (q4 - q1))) rfl (Ls' := #[.val (.long q1), .second, .val (.int p2), .val (.int p3), .val (.long q4), .second, .val (.long (own_F9 (q4 - q1))), .second]) rfl ?_
  refine own_new X5 (hw _ (List.mem_of_getElem? (i := 53) rfl)) (hw _ (List.mem_of_getElem? (i := 54) rfl)) (hw _ (List.mem_of_getElem? (i := 47) rfl)) (by decide) (by decide) own_d8_9 (pc' := 12) rfl fun T9 h10 b8 X11 Ex12 hs13 g14 A15 D16 => ?_
  have sz17 : h0.size ≤ b8 := Nat.le_trans (Keep.refl h0 []).1 (Nat.le_of_eq hs13)
  have F18 : Fld Z h10 b8 "com/example/moratuwa/moratuwa/limit/Decision" "timeMicros" "J" (.long (0 : Int64)) := D16 (Or.inr (hw _ (List.mem_of_getElem? (i := 60) rfl))) (ty := .long) (by decide)
  have F19 : Fld Z h10 b8 "com/example/moratuwa/moratuwa/limit/Decision" "allowed" "Z" (.int (0 : Int32)) := D16 (Or.inr (hw _ (List.mem_of_getElem? (i := 62) rfl))) (ty := .boolean) (by decide)
  have F20 : Fld Z h10 b8 "com/example/moratuwa/moratuwa/limit/Decision" "remaining" "I" (.int (0 : Int32)) := D16 (Or.inr (hw _ (List.mem_of_getElem? (i := 64) rfl))) (ty := .int) (by decide)
  have F21 : Fld Z h10 b8 "com/example/moratuwa/moratuwa/limit/Decision" "resetSeconds" "J" (.long (0 : Int64)) := D16 (Or.inr (hw _ (List.mem_of_getElem? (i := 66) rfl))) (ty := .long) (by decide)
  have F22 : Fld Z h10 b8 "com/example/moratuwa/moratuwa/limit/Decision" "retryAfterSeconds" "J" (.long (0 : Int64)) := D16 (Or.inr (hw _ (List.mem_of_getElem? (i := 68) rfl))) (ty := .long) (by decide)
  have K23 := Keep.ext (Keep.refl h0 []) Ex12
  refine own_dup X11 own_d8_12 (pc' := 13) rfl rfl ?_
  refine own_lloadN X11 own_d8_13 (pc' := 14) rfl (v := q1) rfl ?_
  refine own_iloadN X11 own_d8_14 (pc' := 15) rfl (v := p2) rfl ?_
  refine own_iloadN X11 own_d8_15 (pc' := 16) rfl (v := p3) rfl ?_
  refine own_lload X11 own_d8_16 (pc' := 18) rfl (v := (own_F9 (q4 - q1))) rfl ?_
  refine own_lload X11 own_d8_18 (pc' := 20) rfl (v := (own_F9 (q4 - q1))) rfl ?_
  refine own_callI X11 (a := b8) (argsL := [(.long q1), (.int p2), (.int p3), (.long (own_F9 (q4 - q1))), (.long (own_F9 (q4 - q1)))]) (S := [(.ref b8)]) (own_rm10 l Z a0 hw b8 q1 p2 p3 (own_F9 (q4 - q1)) (own_F9 (q4 - q1)) h10 n0 X11.2.2.2.2.2.2.2.2.1 A15 F18 F19 F20 F21 F22 g14) rfl (hw _ (List.mem_of_getElem? (i := 55) rfl)) (hw _ (List.mem_of_getElem? (i := 56) rfl)) (hw _ (List.mem_of_getElem? (i := 47) rfl)) (hw _ (List.mem_of_getElem? (i := 57) rfl)) (by decide) (by decide) 1 (by decide) rfl own_pd3 rfl rfl (Nat.le_of_eq rfl) (by decide) (by decide) own_d8_20 (pc' := 23) rfl fun T24 h25 lc26 r27 X28 Q29 => ?_
  obtain ⟨rfl, K30, F31, F32, F33, F34, F35⟩ := Q29
  have A36 := Exa.keep A15 K30
  have K37 := Keep.trans K23 K30 (allS (Or.inr sz17) all0)
  show own_E p e below _ (T24.setTop (mkF m 23 #[.val (.long q1), .second, .val (.int p2), .val (.int p3), .val (.long q4), .second, .val (.long (own_F9 (q4 - q1))), .second] [(.ref b8)]))
  refine own_aret X28 (t := (.object "com/example/moratuwa/moratuwa/limit/Decision")) hret rfl rfl rfl own_d8_23 (by decide) (by decide) ?_
  exact ⟨b8, rfl, g14, sz17, K37, A36⟩
theorem own_d11_0 : decode prog_21_method_1_code 0 = .ok (.aload_n 0, 1) := by decide +kernel
theorem own_d11_1 : decode prog_21_method_1_code 1 = .ok (.invokespecial 1, 3) := by decide +kernel
theorem own_d11_4 : decode prog_21_method_1_code 4 = .ok (.aload_n 0, 1) := by decide +kernel
theorem own_d11_5 : decode prog_21_method_1_code 5 = .ok (.lload_n 1, 1) := by decide +kernel
theorem own_d11_6 : decode prog_21_method_1_code 6 = .ok (.putfield 7, 3) := by decide +kernel
theorem own_d11_9 : decode prog_21_method_1_code 9 = .ok (.aload_n 0, 1) := by decide +kernel
theorem own_d11_10 : decode prog_21_method_1_code 10 = .ok (.iload_n 3, 1) := by decide +kernel
theorem own_d11_11 : decode prog_21_method_1_code 11 = .ok (.putfield 13, 3) := by decide +kernel
theorem own_d11_14 : decode prog_21_method_1_code 14 = .ok (.return_, 1) := by decide +kernel
theorem own_ef11 (a1 : Addr) (q2 : Int64) (p3 : Int32) (m : MethodId) : entryFrame m #[(.ref a1), (.long q2), (.int p3)] 4 = mkF m 0 #[.val (.ref a1), .val (.long q2), .second, .val (.int p3)] [] := by first | (simp [entryFrame, mkF, argsToLocals, Value.category]; done) | rfl
theorem own_pf11 : plainFor (⟨"com/example/moratuwa/moratuwa/limit/FixedWindow$Count", "<init>", "(JI)V"⟩ : MethodName) = true := by first | exact plainFor_of_name (by first | (simp [plainName, overriddenIn]; done) | decide +kernel) | decide +kernel
set_option maxRecDepth 65536 in
set_option maxHeartbeats 40000000 in
theorem own_rm11 (l : Launch) (Z : State) (a0 : Array Value) (hw : ∀ d ∈ tables_1, d.before a0 Z = true) (a1 : Addr) (q2 : Int64) (p3 : Int32) (h0 : Heap) (n0 : Nat) (Z0 : n0 ≤ h0.size) (E_a1 : Exa Z h0 a1 "com/example/moratuwa/moratuwa/limit/FixedWindow$Count") (F_windowStartMicros_a1 : Fld Z h0 a1 "com/example/moratuwa/moratuwa/limit/FixedWindow$Count" "windowStartMicros" "J" (.long (0 : Int64))) (F_allowed_a1 : Fld Z h0 a1 "com/example/moratuwa/moratuwa/limit/FixedWindow$Count" "allowed" "I" (.int (0 : Int32))) (g_a1 : n0 ≤ a1) :
    own_Con l Z (⟨"com/example/moratuwa/moratuwa/limit/FixedWindow$Count", "<init>", "(JI)V"⟩ : MethodName) prog_21_method_1_code 4 none ({ frames := 2, cells := 0, slots := 0, locals := 24 } : Room) #[(.ref a1), (.long q2), (.int p3)] h0 n0 (fun v h => v = none ∧ Keep h0 h [a1] ∧ Fld Z h a1 "com/example/moratuwa/moratuwa/limit/FixedWindow$Count" "allowed" "I" (.int p3) ∧ Fld Z h a1 "com/example/moratuwa/moratuwa/limit/FixedWindow$Count" "windowStartMicros" "J" (.long q2)) := by
  refine own_enter own_pf11 Z0 (own_ef11 a1 q2 p3) ?_
  intro p e s m below meth c T0 X0 hret hnm
  refine own_aloadN X0 own_d11_0 (pc' := 1) rfl (v := (.ref a1)) rfl rfl ?_
  refine own_callI X0 (a := a1) (argsL := []) (S := []) (own_rm3 l Z a0 hw a1 h0 n0 X0.2.2.2.2.2.2.2.2.1 ) rfl (hw _ (List.mem_of_getElem? (i := 78) rfl)) (hw _ (List.mem_of_getElem? (i := 12) rfl)) (hw _ (List.mem_of_getElem? (i := 14) rfl)) (hw _ (List.mem_of_getElem? (i := 15) rfl)) (by decide) (by decide) 0 (by decide) rfl own_pd0 rfl rfl (Nat.le_of_eq rfl) (by decide) (by decide) own_d11_1 (pc' := 4) rfl fun T1 h2 lc3 r4 X5 Q6 => ?_
  obtain ⟨rfl, e7⟩ := Q6
  replace e7 := e7.symm
  subst e7
  show own_E p e below _ (T1.setTop (mkF m 4 #[.val (.ref a1), .val (.long q2), .second, .val (.int p3)] []))
  refine own_aloadN X5 own_d11_4 (pc' := 5) rfl (v := (.ref a1)) rfl rfl ?_
  refine own_lloadN X5 own_d11_5 (pc' := 6) rfl (v := q2) rfl ?_
  refine own_putF X5 (hw _ (List.mem_of_getElem? (i := 79) rfl)) F_windowStartMicros_a1 E_a1 (Or.inr ⟨(hw _ (List.mem_of_getElem? (i := 80) rfl)), rfl, hnm⟩) (hw _ (List.mem_of_getElem? (i := 73) rfl)) (ty := .long) (by decide) rfl rfl g_a1 own_d11_6 (pc' := 9) rfl fun T8 h9 lc11 X10 W12 F13 => ?_
  have A14 := Exa.wr W12 E_a1
  have F15 := Fld.other W12 F_allowed_a1 (Or.inr (slot_ne (Or.inr (hw _ (List.mem_of_getElem? (i := 82) rfl))) (Or.inr (hw _ (List.mem_of_getElem? (i := 80) rfl))) (by decide) (t := .int) (t' := .long) (by decide) (by decide)))
  have K16 := Keep.wr (Keep.refl h0 [a1]) W12 (Or.inl (List.mem_of_getElem? (i := 0) rfl))
  refine own_aloadN X10 own_d11_9 (pc' := 10) rfl (v := (.ref a1)) rfl rfl ?_
  refine own_iloadN X10 own_d11_10 (pc' := 11) rfl (v := p3) rfl ?_
  refine own_putF X10 (hw _ (List.mem_of_getElem? (i := 81) rfl)) F15 A14 (Or.inr ⟨(hw _ (List.mem_of_getElem? (i := 82) rfl)), rfl, hnm⟩) (hw _ (List.mem_of_getElem? (i := 73) rfl)) (ty := .int) (by decide) rfl rfl g_a1 own_d11_11 (pc' := 14) rfl fun T17 h18 lc20 X19 W21 F22 => ?_
  have A23 := Exa.wr W21 A14
  have F24 := Fld.other W21 F13 (Or.inr (slot_ne (Or.inr (hw _ (List.mem_of_getElem? (i := 80) rfl))) (Or.inr (hw _ (List.mem_of_getElem? (i := 82) rfl))) (by decide) (t := .long) (t' := .int) (by decide) (by decide)))
  have K25 := Keep.wr K16 W21 (Or.inl (List.mem_of_getElem? (i := 0) rfl))
  refine own_vret X19 hret own_d11_14 (by decide) (by decide) ?_
  exact ⟨rfl, K25, F22, F24⟩
theorem own_d12_0 : decode prog_16_method_1_code 0 = .ok (.aload_n 0, 1) := by decide +kernel
theorem own_d12_1 : decode prog_16_method_1_code 1 = .ok (.invokespecial 1, 3) := by decide +kernel
theorem own_d12_4 : decode prog_16_method_1_code 4 = .ok (.aload_n 0, 1) := by decide +kernel
theorem own_d12_5 : decode prog_16_method_1_code 5 = .ok (.aload_n 1, 1) := by decide +kernel
theorem own_d12_6 : decode prog_16_method_1_code 6 = .ok (.putfield 7, 3) := by decide +kernel
theorem own_d12_9 : decode prog_16_method_1_code 9 = .ok (.aload_n 0, 1) := by decide +kernel
theorem own_d12_10 : decode prog_16_method_1_code 10 = .ok (.aload_n 2, 1) := by decide +kernel
theorem own_d12_11 : decode prog_16_method_1_code 11 = .ok (.putfield 13, 3) := by decide +kernel
theorem own_d12_14 : decode prog_16_method_1_code 14 = .ok (.return_, 1) := by decide +kernel
theorem own_ef12 (a1 : Addr) (a2 : Addr) (a3 : Addr) (m : MethodId) : entryFrame m #[(.ref a1), (.ref a2), (.ref a3)] 3 = mkF m 0 #[.val (.ref a1), .val (.ref a2), .val (.ref a3)] [] := by first | (simp [entryFrame, mkF, argsToLocals, Value.category]; done) | rfl
theorem own_pf12 : plainFor (⟨"com/example/moratuwa/moratuwa/limit/Algorithm$Step", "<init>", "(Ljava/lang/Object;Lcom/example/moratuwa/moratuwa/limit/Decision;)V"⟩ : MethodName) = true := by first | exact plainFor_of_name (by first | (simp [plainName, overriddenIn]; done) | decide +kernel) | decide +kernel
set_option maxRecDepth 65536 in
set_option maxHeartbeats 40000000 in
theorem own_rm12 (l : Launch) (Z : State) (a0 : Array Value) (hw : ∀ d ∈ tables_1, d.before a0 Z = true) (a1 : Addr) (a2 : Addr) (a3 : Addr) (h0 : Heap) (n0 : Nat) (Z0 : n0 ≤ h0.size) (E_a1 : Exa Z h0 a1 "com/example/moratuwa/moratuwa/limit/Algorithm$Step") (F_state_a1 : Fld Z h0 a1 "com/example/moratuwa/moratuwa/limit/Algorithm$Step" "state" "Ljava/lang/Object;" .null) (F_decision_a1 : Fld Z h0 a1 "com/example/moratuwa/moratuwa/limit/Algorithm$Step" "decision" "Lcom/example/moratuwa/moratuwa/limit/Decision;" .null) (g_a1 : n0 ≤ a1) :
    own_Con l Z (⟨"com/example/moratuwa/moratuwa/limit/Algorithm$Step", "<init>", "(Ljava/lang/Object;Lcom/example/moratuwa/moratuwa/limit/Decision;)V"⟩ : MethodName) prog_16_method_1_code 3 none ({ frames := 2, cells := 0, slots := 0, locals := 24 } : Room) #[(.ref a1), (.ref a2), (.ref a3)] h0 n0 (fun v h => v = none ∧ Keep h0 h [a1] ∧ Fld Z h a1 "com/example/moratuwa/moratuwa/limit/Algorithm$Step" "decision" "Lcom/example/moratuwa/moratuwa/limit/Decision;" (.ref a3) ∧ Fld Z h a1 "com/example/moratuwa/moratuwa/limit/Algorithm$Step" "state" "Ljava/lang/Object;" (.ref a2)) := by
  refine own_enter own_pf12 Z0 (own_ef12 a1 a2 a3) ?_
  intro p e s m below meth c T0 X0 hret hnm
  refine own_aloadN X0 own_d12_0 (pc' := 1) rfl (v := (.ref a1)) rfl rfl ?_
  refine own_callI X0 (a := a1) (argsL := []) (S := []) (own_rm3 l Z a0 hw a1 h0 n0 X0.2.2.2.2.2.2.2.2.1 ) rfl (hw _ (List.mem_of_getElem? (i := 86) rfl)) (hw _ (List.mem_of_getElem? (i := 12) rfl)) (hw _ (List.mem_of_getElem? (i := 14) rfl)) (hw _ (List.mem_of_getElem? (i := 15) rfl)) (by decide) (by decide) 0 (by decide) rfl own_pd0 rfl rfl (Nat.le_of_eq rfl) (by decide) (by decide) own_d12_1 (pc' := 4) rfl fun T1 h2 lc3 r4 X5 Q6 => ?_
  obtain ⟨rfl, e7⟩ := Q6
  replace e7 := e7.symm
  subst e7
  show own_E p e below _ (T1.setTop (mkF m 4 #[.val (.ref a1), .val (.ref a2), .val (.ref a3)] []))
  refine own_aloadN X5 own_d12_4 (pc' := 5) rfl (v := (.ref a1)) rfl rfl ?_
  refine own_aloadN X5 own_d12_5 (pc' := 6) rfl (v := (.ref a2)) rfl rfl ?_
  refine own_putF X5 (hw _ (List.mem_of_getElem? (i := 87) rfl)) F_state_a1 E_a1 (Or.inr ⟨(hw _ (List.mem_of_getElem? (i := 88) rfl)), rfl, hnm⟩) (hw _ (List.mem_of_getElem? (i := 70) rfl)) (ty := (.object "java/lang/Object")) (by decide) rfl rfl g_a1 own_d12_6 (pc' := 9) rfl fun T8 h9 lc11 X10 W12 F13 => ?_
  have A14 := Exa.wr W12 E_a1
  have F15 := Fld.other W12 F_decision_a1 (Or.inr (slot_ne (Or.inr (hw _ (List.mem_of_getElem? (i := 90) rfl))) (Or.inr (hw _ (List.mem_of_getElem? (i := 88) rfl))) (by decide) (t := (.object "com/example/moratuwa/moratuwa/limit/Decision")) (t' := (.object "java/lang/Object")) (by decide) (by decide)))
  have K16 := Keep.wr (Keep.refl h0 [a1]) W12 (Or.inl (List.mem_of_getElem? (i := 0) rfl))
  refine own_aloadN X10 own_d12_9 (pc' := 10) rfl (v := (.ref a1)) rfl rfl ?_
  refine own_aloadN X10 own_d12_10 (pc' := 11) rfl (v := (.ref a3)) rfl rfl ?_
  refine own_putF X10 (hw _ (List.mem_of_getElem? (i := 89) rfl)) F15 A14 (Or.inr ⟨(hw _ (List.mem_of_getElem? (i := 90) rfl)), rfl, hnm⟩) (hw _ (List.mem_of_getElem? (i := 70) rfl)) (ty := (.object "com/example/moratuwa/moratuwa/limit/Decision")) (by decide) rfl rfl g_a1 own_d12_11 (pc' := 14) rfl fun T17 h18 lc20 X19 W21 F22 => ?_
  have A23 := Exa.wr W21 A14
  have F24 := Fld.other W21 F13 (Or.inr (slot_ne (Or.inr (hw _ (List.mem_of_getElem? (i := 88) rfl))) (Or.inr (hw _ (List.mem_of_getElem? (i := 90) rfl))) (by decide) (t := (.object "java/lang/Object")) (t' := (.object "com/example/moratuwa/moratuwa/limit/Decision")) (by decide) (by decide)))
  have K25 := Keep.wr K16 W21 (Or.inl (List.mem_of_getElem? (i := 0) rfl))
  refine own_vret X19 hret own_d12_14 (by decide) (by decide) ?_
  exact ⟨rfl, K25, F22, F24⟩
theorem own_pd4 : parseMethodDescriptor "(JJ)J" = some ⟨[.long, .long], some .long⟩ := by decide +kernel
theorem own_pd5 : parseMethodDescriptor "(JZIJ)Lcom/example/moratuwa/moratuwa/limit/Decision;" = some ⟨[.long, .boolean, .int, .long], some (.object "com/example/moratuwa/moratuwa/limit/Decision")⟩ := by decide +kernel
theorem own_pd6 : parseMethodDescriptor "(JI)V" = some ⟨[.long, .int], none⟩ := by decide +kernel
theorem own_pd7 : parseMethodDescriptor "(Ljava/lang/Object;Lcom/example/moratuwa/moratuwa/limit/Decision;)V" = some ⟨[(.object "java/lang/Object"), (.object "com/example/moratuwa/moratuwa/limit/Decision")], none⟩ := by decide +kernel
theorem own_d6_0 : decode prog_20_method_2_code 0 = .ok (.aload_n 0, 1) := by decide +kernel
theorem own_d6_1 : decode prog_20_method_2_code 1 = .ok (.getfield 21, 3) := by decide +kernel
theorem own_d6_4 : decode prog_20_method_2_code 4 = .ok (.i2l, 1) := by decide +kernel
theorem own_d6_5 : decode prog_20_method_2_code 5 = .ok (.ldc2_w 24, 3) := by decide +kernel
theorem own_d6_8 : decode prog_20_method_2_code 8 = .ok (.lmul, 1) := by decide +kernel
theorem own_d6_9 : decode prog_20_method_2_code 9 = .ok (.lstore 4, 2) := by decide +kernel
theorem own_d6_11 : decode prog_20_method_2_code 11 = .ok (.lload_n 2, 1) := by decide +kernel
theorem own_d6_12 : decode prog_20_method_2_code 12 = .ok (.lload 4, 2) := by decide +kernel
theorem own_d6_14 : decode prog_20_method_2_code 14 = .ok (.invokestatic 26, 3) := by decide +kernel
theorem own_d6_17 : decode prog_20_method_2_code 17 = .ok (.lload 4, 2) := by decide +kernel
theorem own_d6_19 : decode prog_20_method_2_code 19 = .ok (.lmul, 1) := by decide +kernel
theorem own_d6_20 : decode prog_20_method_2_code 20 = .ok (.lstore 6, 2) := by decide +kernel
theorem own_d6_22 : decode prog_20_method_2_code 22 = .ok (.aload_n 1, 1) := by decide +kernel
theorem own_d6_23 : decode prog_20_method_2_code 23 = .ok (.ifnull 20, 3) := by decide +kernel
theorem own_d6_43 : decode prog_20_method_2_code 43 = .ok (.iconst 0, 1) := by decide +kernel
theorem own_d6_44 : decode prog_20_method_2_code 44 = .ok (.istore 8, 2) := by decide +kernel
theorem own_d6_46 : decode prog_20_method_2_code 46 = .ok (.iload 8, 2) := by decide +kernel
theorem own_d6_48 : decode prog_20_method_2_code 48 = .ok (.aload_n 0, 1) := by decide +kernel
theorem own_d6_49 : decode prog_20_method_2_code 49 = .ok (.getfield 15, 3) := by decide +kernel
theorem own_d6_52 : decode prog_20_method_2_code 52 = .ok (.if_icmp .ge 7, 3) := by decide +kernel
theorem own_d6_55 : decode prog_20_method_2_code 55 = .ok (.iconst 1, 1) := by decide +kernel
theorem own_d6_56 : decode prog_20_method_2_code 56 = .ok (.goto 4, 3) := by decide +kernel
theorem own_d6_60 : decode prog_20_method_2_code 60 = .ok (.istore 9, 2) := by decide +kernel
theorem own_d6_62 : decode prog_20_method_2_code 62 = .ok (.iload 9, 2) := by decide +kernel
theorem own_d6_64 : decode prog_20_method_2_code 64 = .ok (.ifCond .eq 6, 3) := by decide +kernel
theorem own_d6_67 : decode prog_20_method_2_code 67 = .ok (.iinc 8 1, 3) := by decide +kernel
theorem own_d6_70 : decode prog_20_method_2_code 70 = .ok (.lload_n 2, 1) := by decide +kernel
theorem own_d6_71 : decode prog_20_method_2_code 71 = .ok (.iload 9, 2) := by decide +kernel
theorem own_d6_73 : decode prog_20_method_2_code 73 = .ok (.aload_n 0, 1) := by decide +kernel
theorem own_d6_74 : decode prog_20_method_2_code 74 = .ok (.getfield 15, 3) := by decide +kernel
theorem own_d6_77 : decode prog_20_method_2_code 77 = .ok (.iload 8, 2) := by decide +kernel
theorem own_d6_79 : decode prog_20_method_2_code 79 = .ok (.isub, 1) := by decide +kernel
theorem own_d6_80 : decode prog_20_method_2_code 80 = .ok (.lload 6, 2) := by decide +kernel
theorem own_d6_82 : decode prog_20_method_2_code 82 = .ok (.lload 4, 2) := by decide +kernel
theorem own_d6_84 : decode prog_20_method_2_code 84 = .ok (.ladd, 1) := by decide +kernel
theorem own_d6_85 : decode prog_20_method_2_code 85 = .ok (.invokestatic 42, 3) := by decide +kernel
theorem own_d6_88 : decode prog_20_method_2_code 88 = .ok (.astore 10, 2) := by decide +kernel
theorem own_d6_90 : decode prog_20_method_2_code 90 = .ok (.new 48, 3) := by decide +kernel
theorem own_d6_93 : decode prog_20_method_2_code 93 = .ok (.dup, 1) := by decide +kernel
theorem own_d6_94 : decode prog_20_method_2_code 94 = .ok (.iload 9, 2) := by decide +kernel
theorem own_d6_96 : decode prog_20_method_2_code 96 = .ok (.ifCond .eq 17, 3) := by decide +kernel
theorem own_d6_99 : decode prog_20_method_2_code 99 = .ok (.new 33, 3) := by decide +kernel
theorem own_d6_102 : decode prog_20_method_2_code 102 = .ok (.dup, 1) := by decide +kernel
theorem own_d6_103 : decode prog_20_method_2_code 103 = .ok (.lload 6, 2) := by decide +kernel
theorem own_d6_105 : decode prog_20_method_2_code 105 = .ok (.iload 8, 2) := by decide +kernel
theorem own_d6_107 : decode prog_20_method_2_code 107 = .ok (.invokespecial 50, 3) := by decide +kernel
theorem own_d6_110 : decode prog_20_method_2_code 110 = .ok (.goto 4, 3) := by decide +kernel
theorem own_d6_114 : decode prog_20_method_2_code 114 = .ok (.aload 10, 2) := by decide +kernel
theorem own_d6_116 : decode prog_20_method_2_code 116 = .ok (.invokespecial 53, 3) := by decide +kernel
theorem own_d6_119 : decode prog_20_method_2_code 119 = .ok (.areturn, 1) := by decide +kernel
theorem own_ef6 (a1 : Addr) (q3 : Int64) (m : MethodId) : entryFrame m #[(.ref a1), .null, (.long q3)] 11 = mkF m 0 #[.val (.ref a1), .val .null, .val (.long q3), .second, .unset, .unset, .unset, .unset, .unset, .unset, .unset] [] := by first | (simp [entryFrame, mkF, argsToLocals, Value.category]; done) | rfl
theorem own_pf6 : plainFor (⟨"com/example/moratuwa/moratuwa/limit/FixedWindow", "decide", "(Lcom/example/moratuwa/moratuwa/limit/FixedWindow$Count;J)Lcom/example/moratuwa/moratuwa/limit/Algorithm$Step;"⟩ : MethodName) = true := by first | exact plainFor_of_name (by first | (simp [plainName, overriddenIn]; done) | decide +kernel) | decide +kernel
def own_v6_9 (w2 : Int32) : Int64 := ((w2.toInt64) * (1000000 : Int64))
def own_v6_20 (w2 : Int32) (q3 : Int64) : Int64 := ((own_F7 q3 (own_v6_9 w2)) * (own_v6_9 w2))
set_option maxRecDepth 65536 in
set_option maxHeartbeats 40000000 in
theorem own_rm6 (l : Launch) (Z : State) (a0 : Array Value) (hw : ∀ d ∈ tables_1, d.before a0 Z = true) (a1 : Addr) (w1 : Int32) (w2 : Int32) (q3 : Int64) (h0 : Heap) (n0 : Nat) (Z0 : n0 ≤ h0.size) (E_a1 : Exa Z h0 a1 "com/example/moratuwa/moratuwa/limit/FixedWindow") (F_limit_a1 : Fld Z h0 a1 "com/example/moratuwa/moratuwa/limit/FixedWindow" "limit" "I" (.int w1)) (F_windowSeconds_a1 : Fld Z h0 a1 "com/example/moratuwa/moratuwa/limit/FixedWindow" "windowSeconds" "I" (.int w2)) (hl : (0 : Int32) < w1) (hz : (w2.toInt64) * (1000000 : Int64) ≠ (0 : Int64)) :
    own_Con l Z (⟨"com/example/moratuwa/moratuwa/limit/FixedWindow", "decide", "(Lcom/example/moratuwa/moratuwa/limit/FixedWindow$Count;J)Lcom/example/moratuwa/moratuwa/limit/Algorithm$Step;"⟩ : MethodName) prog_20_method_2_code 11 (some (.object "com/example/moratuwa/moratuwa/limit/Algorithm$Step")) ({ frames := 4, cells := 3, slots := 9, locals := 64 } : Room) #[(.ref a1), .null, (.long q3)] h0 n0 (fun v h => ∃ b b2, v = some (.ref b) ∧ Keep h0 h [] ∧ Exa Z h b "com/example/moratuwa/moratuwa/limit/Algorithm$Step" ∧ Fld Z h b "com/example/moratuwa/moratuwa/limit/Algorithm$Step" "state" "Ljava/lang/Object;" (.ref b2) ∧ Exa Z h b2 "com/example/moratuwa/moratuwa/limit/FixedWindow$Count" ∧ Fld Z h b2 "com/example/moratuwa/moratuwa/limit/FixedWindow$Count" "windowStartMicros" "J" (.long (own_v6_20 w2 q3))) := by
  refine own_enter own_pf6 Z0 (own_ef6 a1 q3) ?_
  intro p e s m below meth c T0 X0 hret hnm
  refine own_aloadN X0 own_d6_0 (pc' := 1) rfl (v := (.ref a1)) rfl rfl ?_
  refine own_getF X0 (hw _ (List.mem_of_getElem? (i := 34) rfl)) F_windowSeconds_a1 own_d6_1 (pc' := 4) rfl fun T1 X2 => ?_
  refine own_i2l X2 own_d6_4 (pc' := 5) rfl (z := (w2.toInt64)) rfl ?_
  refine own_ldc2 X2 (hw _ (List.mem_of_getElem? (i := 41) rfl)) own_d6_5 (pc' := 8) rfl ?_
  refine own_lmul X2 own_d6_8 (pc' := 9) rfl (z := ((w2.toInt64) * (1000000 : Int64))) rfl ?_
  refine own_lstore X2 own_d6_9 (pc' := 11) rfl (y := (own_v6_9 w2)) rfl (Ls' := #[.val (.ref a1), .val .null, .val (.long q3), .second, .val (.long (own_v6_9 w2)), .second, .unset, .unset, .unset, .unset, .unset]) rfl ?_
  refine own_lloadN X2 own_d6_11 (pc' := 12) rfl (v := q3) rfl ?_
  refine own_lload X2 own_d6_12 (pc' := 14) rfl (v := (own_v6_9 w2)) rfl ?_
  refine own_callS X2 (argsL := [(.long q3), (.long (own_v6_9 w2))]) (S := []) (own_rm7 l Z a0 hw q3 (own_v6_9 w2) h0 n0 X2.2.2.2.2.2.2.2.2.1 hz) (hw _ (List.mem_of_getElem? (i := 42) rfl)) (hw _ (List.mem_of_getElem? (i := 43) rfl)) (hw _ (List.mem_of_getElem? (i := 3) rfl)) (hw _ (List.mem_of_getElem? (i := 44) rfl)) (by decide) (by decide) 0 (by decide) rfl own_pd4 rfl rfl (Nat.le_of_eq rfl) (by decide) (by decide) own_d6_14 (pc' := 17) rfl fun T3 h4 lc5 r6 X7 Q8 => ?_
  obtain ⟨rfl, e9⟩ := Q8
  replace e9 := e9.symm
  subst e9
  show own_E p e below _ (T3.setTop (mkF m 17 #[.val (.ref a1), .val .null, .val (.long q3), .second, .val (.long (own_v6_9 w2)), .second, .unset, .unset, .unset, .unset, .unset] [(.long (own_F7 q3 (own_v6_9 w2)))]))
  refine own_lload X7 own_d6_17 (pc' := 19) rfl (v := (own_v6_9 w2)) rfl ?_
  refine own_lmul X7 own_d6_19 (pc' := 20) rfl (z := ((own_F7 q3 (own_v6_9 w2)) * (own_v6_9 w2))) rfl ?_
  refine own_lstore X7 own_d6_20 (pc' := 22) rfl (y := (own_v6_20 w2 q3)) rfl (Ls' := #[.val (.ref a1), .val .null, .val (.long q3), .second, .val (.long (own_v6_9 w2)), .second, .val (.long (own_v6_20 w2 q3)), .second, .unset, .unset, .unset]) rfl ?_
  refine own_aloadN X7 own_d6_22 (pc' := 23) rfl (v := .null) rfl rfl ?_
  refine own_ifnullY X7 own_d6_23 (by decide) (pc' := 43) rfl ?_
  refine own_iconst X7 own_d6_43 (pc' := 44) rfl (z := (0 : Int32)) rfl ?_
  refine own_istore X7 own_d6_44 (pc' := 46) rfl (y := (0 : Int32)) rfl (Ls' := #[.val (.ref a1), .val .null, .val (.long q3), .second, .val (.long (own_v6_9 w2)), .second, .val (.long (own_v6_20 w2 q3)), .second, .val (.int (0 : Int32)), .unset, .unset]) rfl ?_
  refine own_iload X7 own_d6_46 (pc' := 48) rfl (v := (0 : Int32)) rfl ?_
  refine own_aloadN X7 own_d6_48 (pc' := 49) rfl (v := (.ref a1)) rfl rfl ?_
  refine own_getF X7 (hw _ (List.mem_of_getElem? (i := 32) rfl)) F_limit_a1 own_d6_49 (pc' := 52) rfl fun T10 X11 => ?_
  have hk12 : (0 : Int32) < w1 := hl
  refine own_icmpN X11 own_d6_52 (tlt hk12).2.1 (pc' := 55) rfl ?_
  refine own_iconst X11 own_d6_55 (pc' := 56) rfl (z := (1 : Int32)) rfl ?_
  refine own_goto X11 own_d6_56 (by decide) (pc' := 60) rfl ?_
  refine own_istore X11 own_d6_60 (pc' := 62) rfl (y := (1 : Int32)) rfl (Ls' := #[.val (.ref a1), .val .null, .val (.long q3), .second, .val (.long (own_v6_9 w2)), .second, .val (.long (own_v6_20 w2 q3)), .second, .val (.int (0 : Int32)), .val (.int (1 : Int32)), .unset]) rfl ?_
  refine own_iload X11 own_d6_62 (pc' := 64) rfl (v := (1 : Int32)) rfl ?_
  have hk13 : ¬ ((1 : Int32) = (0 : Int32)) := (by decide)
  refine own_ifN X11 own_d6_64 (feq hk13).1 (pc' := 67) rfl ?_
  refine own_iinc X11 own_d6_67 (pc' := 70) rfl (x := (0 : Int32)) rfl (z := (1 : Int32)) (by decide) (Ls' := #[.val (.ref a1), .val .null, .val (.long q3), .second, .val (.long (own_v6_9 w2)), .second, .val (.long (own_v6_20 w2 q3)), .second, .val (.int (1 : Int32)), .val (.int (1 : Int32)), .unset]) rfl ?_
  refine own_lloadN X11 own_d6_70 (pc' := 71) rfl (v := q3) rfl ?_
  refine own_iload X11 own_d6_71 (pc' := 73) rfl (v := (1 : Int32)) rfl ?_
  refine own_aloadN X11 own_d6_73 (pc' := 74) rfl (v := (.ref a1)) rfl rfl ?_
  refine own_getF X11 (hw _ (List.mem_of_getElem? (i := 32) rfl)) F_limit_a1 own_d6_74 (pc' := 77) rfl fun T14 X15 => ?_
  refine own_iload X15 own_d6_77 (pc' := 79) rfl (v := (1 : Int32)) rfl ?_
  refine own_isub X15 own_d6_79 (pc' := 80) rfl (z := (w1 - (1 : Int32))) rfl ?_
  refine own_lload X15 own_d6_80 (pc' := 82) rfl (v := (own_v6_20 w2 q3)) rfl ?_
  refine own_lload X15 own_d6_82 (pc' := 84) rfl (v := (own_v6_9 w2)) rfl ?_
  refine own_ladd X15 own_d6_84 (pc' := 85) rfl (z := ((own_v6_20 w2 q3) + (own_v6_9 w2))) rfl ?_
  refine own_callS X15 (argsL := [(.long q3), (.int (1 : Int32)), (.int (w1 - (1 : Int32))), (.long ((own_v6_20 w2 q3) + (own_v6_9 w2)))]) (S := []) (own_rm8 l Z a0 hw q3 (1 : Int32) (w1 - (1 : Int32)) ((own_v6_20 w2 q3) + (own_v6_9 w2)) h0 n0 X15.2.2.2.2.2.2.2.2.1 ) (hw _ (List.mem_of_getElem? (i := 45) rfl)) (hw _ (List.mem_of_getElem? (i := 46) rfl)) (hw _ (List.mem_of_getElem? (i := 47) rfl)) (hw _ (List.mem_of_getElem? (i := 48) rfl)) (by decide) (by decide) 0 (by decide) rfl own_pd5 rfl rfl (Nat.le_of_eq rfl) (by decide) (by decide) own_d6_85 (pc' := 88) rfl fun T16 h17 lc18 r19 X20 Q21 => ?_
  obtain ⟨b22, rfl, g23, sz24, K25, A26⟩ := Q21
  have ne27 : a1 ≠ b22 := Nat.ne_of_lt (Nat.lt_of_lt_of_le E_a1.lt sz24)
  have sz28 : h0.size ≤ b22 := Nat.le_trans (Keep.refl h0 []).1 sz24
  have A29 := Exa.keep E_a1 K25
  have F30 := Fld.keep F_limit_a1 K25 nin0
  have F31 := Fld.keep F_windowSeconds_a1 K25 nin0
  have K32 := Keep.trans (Keep.refl h0 []) K25 all0
  show own_E p e below _ (T16.setTop (mkF m 88 #[.val (.ref a1), .val .null, .val (.long q3), .second, .val (.long (own_v6_9 w2)), .second, .val (.long (own_v6_20 w2 q3)), .second, .val (.int (1 : Int32)), .val (.int (1 : Int32)), .unset] [(.ref b22)]))
  refine own_astore X20 own_d6_88 (pc' := 90) rfl rfl (Ls' := #[.val (.ref a1), .val .null, .val (.long q3), .second, .val (.long (own_v6_9 w2)), .second, .val (.long (own_v6_20 w2 q3)), .second, .val (.int (1 : Int32)), .val (.int (1 : Int32)), .val (.ref b22)]) rfl ?_
  refine own_new X20 (hw _ (List.mem_of_getElem? (i := 69) rfl)) (hw _ (List.mem_of_getElem? (i := 70) rfl)) (hw _ (List.mem_of_getElem? (i := 71) rfl)) (by decide) (by decide) own_d6_90 (pc' := 93) rfl fun T34 h35 b33 X36 Ex37 hs38 g39 A40 D41 => ?_
  have sz42 : h0.size ≤ b33 := Nat.le_trans K32.1 (Nat.le_of_eq hs38)
  have ne43 : a1 ≠ b33 := Nat.ne_of_lt (Nat.lt_of_lt_of_eq A29.lt hs38)
  have ne44 : b22 ≠ b33 := Nat.ne_of_lt (Nat.lt_of_lt_of_eq A26.lt hs38)
  have A45 := Exa.ext Ex37 A29
  have A46 := Exa.ext Ex37 A26
  have F47 := Fld.ext Ex37 F30
  have F48 := Fld.ext Ex37 F31
  have F49 : Fld Z h35 b33 "com/example/moratuwa/moratuwa/limit/Algorithm$Step" "state" "Ljava/lang/Object;" .null := D41 (Or.inr (hw _ (List.mem_of_getElem? (i := 88) rfl))) (ty := (.object "java/lang/Object")) (by decide)
  have F50 : Fld Z h35 b33 "com/example/moratuwa/moratuwa/limit/Algorithm$Step" "decision" "Lcom/example/moratuwa/moratuwa/limit/Decision;" .null := D41 (Or.inr (hw _ (List.mem_of_getElem? (i := 90) rfl))) (ty := (.object "com/example/moratuwa/moratuwa/limit/Decision")) (by decide)
  have K51 := Keep.ext K32 Ex37
  refine own_dup X36 own_d6_93 (pc' := 94) rfl rfl ?_
  refine own_iload X36 own_d6_94 (pc' := 96) rfl (v := (1 : Int32)) rfl ?_
  have hk52 : ¬ ((1 : Int32) = (0 : Int32)) := (by decide)
  refine own_ifN X36 own_d6_96 (feq hk52).1 (pc' := 99) rfl ?_
  refine own_new X36 (hw _ (List.mem_of_getElem? (i := 72) rfl)) (hw _ (List.mem_of_getElem? (i := 73) rfl)) (hw _ (List.mem_of_getElem? (i := 74) rfl)) (by decide) (by decide) own_d6_99 (pc' := 102) rfl fun T54 h55 b53 X56 Ex57 hs58 g59 A60 D61 => ?_
  have sz62 : h0.size ≤ b53 := Nat.le_trans K51.1 (Nat.le_of_eq hs58)
  have ne63 : a1 ≠ b53 := Nat.ne_of_lt (Nat.lt_of_lt_of_eq A45.lt hs58)
  have ne64 : b22 ≠ b53 := Nat.ne_of_lt (Nat.lt_of_lt_of_eq A46.lt hs58)
  have ne65 : b33 ≠ b53 := Nat.ne_of_lt (Nat.lt_of_lt_of_eq A40.lt hs58)
  have A66 := Exa.ext Ex57 A45
  have A67 := Exa.ext Ex57 A46
  have A68 := Exa.ext Ex57 A40
  have F69 := Fld.ext Ex57 F47
  have F70 := Fld.ext Ex57 F48
  have F71 := Fld.ext Ex57 F49
  have F72 := Fld.ext Ex57 F50
  have F73 : Fld Z h55 b53 "com/example/moratuwa/moratuwa/limit/FixedWindow$Count" "windowStartMicros" "J" (.long (0 : Int64)) := D61 (Or.inr (hw _ (List.mem_of_getElem? (i := 80) rfl))) (ty := .long) (by decide)
  have F74 : Fld Z h55 b53 "com/example/moratuwa/moratuwa/limit/FixedWindow$Count" "allowed" "I" (.int (0 : Int32)) := D61 (Or.inr (hw _ (List.mem_of_getElem? (i := 82) rfl))) (ty := .int) (by decide)
  have K75 := Keep.ext K51 Ex57
  refine own_dup X56 own_d6_102 (pc' := 103) rfl rfl ?_
  refine own_lload X56 own_d6_103 (pc' := 105) rfl (v := (own_v6_20 w2 q3)) rfl ?_
  refine own_iload X56 own_d6_105 (pc' := 107) rfl (v := (1 : Int32)) rfl ?_
  refine own_callI X56 (a := b53) (argsL := [(.long (own_v6_20 w2 q3)), (.int (1 : Int32))]) (S := [(.ref b53), (.ref b33), (.ref b33)]) (own_rm11 l Z a0 hw b53 (own_v6_20 w2 q3) (1 : Int32) h55 n0 X56.2.2.2.2.2.2.2.2.1 A60 F73 F74 g59) rfl (hw _ (List.mem_of_getElem? (i := 75) rfl)) (hw _ (List.mem_of_getElem? (i := 76) rfl)) (hw _ (List.mem_of_getElem? (i := 74) rfl)) (hw _ (List.mem_of_getElem? (i := 77) rfl)) (by decide) (by decide) 3 (by decide) rfl own_pd6 rfl rfl (Nat.le_of_eq rfl) (by decide) (by decide) own_d6_107 (pc' := 110) rfl fun T76 h77 lc78 r79 X80 Q81 => ?_
  obtain ⟨rfl, K82, F83, F84⟩ := Q81
  have A85 := Exa.keep A66 K82
  have A86 := Exa.keep A67 K82
  have A87 := Exa.keep A68 K82
  have A88 := Exa.keep A60 K82
  have F89 := Fld.keep F69 K82 (ninS ne63 nin0)
  have F90 := Fld.keep F70 K82 (ninS ne63 nin0)
  have F91 := Fld.keep F71 K82 (ninS ne65 nin0)
  have F92 := Fld.keep F72 K82 (ninS ne65 nin0)
  have K93 := Keep.trans K75 K82 (allS (Or.inr sz62) all0)
  show own_E p e below _ (T76.setTop (mkF m 110 #[.val (.ref a1), .val .null, .val (.long q3), .second, .val (.long (own_v6_9 w2)), .second, .val (.long (own_v6_20 w2 q3)), .second, .val (.int (1 : Int32)), .val (.int (1 : Int32)), .val (.ref b22)] [(.ref b53), (.ref b33), (.ref b33)]))
  refine own_goto X80 own_d6_110 (by decide) (pc' := 114) rfl ?_
  refine own_aload X80 own_d6_114 (pc' := 116) rfl (v := (.ref b22)) rfl rfl ?_
  refine own_callI X80 (a := b33) (argsL := [(.ref b53), (.ref b22)]) (S := [(.ref b33)]) (own_rm12 l Z a0 hw b33 b53 b22 h77 n0 X80.2.2.2.2.2.2.2.2.1 A87 F91 F92 g39) rfl (hw _ (List.mem_of_getElem? (i := 83) rfl)) (hw _ (List.mem_of_getElem? (i := 84) rfl)) (hw _ (List.mem_of_getElem? (i := 71) rfl)) (hw _ (List.mem_of_getElem? (i := 85) rfl)) (by decide) (by decide) 1 (by decide) rfl own_pd7 rfl rfl (Nat.le_of_eq rfl) (by decide) (by decide) own_d6_116 (pc' := 119) rfl fun T94 h95 lc96 r97 X98 Q99 => ?_
  obtain ⟨rfl, K100, F101, F102⟩ := Q99
  have A103 := Exa.keep A85 K100
  have A104 := Exa.keep A86 K100
  have A105 := Exa.keep A87 K100
  have A106 := Exa.keep A88 K100
  have F107 := Fld.keep F89 K100 (ninS ne43 nin0)
  have F108 := Fld.keep F90 K100 (ninS ne43 nin0)
  have F109 := Fld.keep F84 K100 (ninS (Ne.symm ne65) nin0)
  have F110 := Fld.keep F83 K100 (ninS (Ne.symm ne65) nin0)
  have K111 := Keep.trans K93 K100 (allS (Or.inr sz42) all0)
  show own_E p e below _ (T94.setTop (mkF m 119 #[.val (.ref a1), .val .null, .val (.long q3), .second, .val (.long (own_v6_9 w2)), .second, .val (.long (own_v6_20 w2 q3)), .second, .val (.int (1 : Int32)), .val (.int (1 : Int32)), .val (.ref b22)] [(.ref b33)]))
  refine own_aret X98 (t := (.object "com/example/moratuwa/moratuwa/limit/Algorithm$Step")) hret rfl rfl rfl own_d6_119 (by decide) (by decide) ?_
  exact ⟨b33, b53, rfl, K111, A105, F102, A106, F109⟩
theorem own_d13_0 : decode prog_16_method_5_code 0 = .ok (.aload_n 0, 1) := by decide +kernel
theorem own_d13_1 : decode prog_16_method_5_code 1 = .ok (.getfield 7, 3) := by decide +kernel
theorem own_d13_4 : decode prog_16_method_5_code 4 = .ok (.areturn, 1) := by decide +kernel
theorem own_ef13 (a1 : Addr) (m : MethodId) : entryFrame m #[(.ref a1)] 1 = mkF m 0 #[.val (.ref a1)] [] := by first | (simp [entryFrame, mkF, argsToLocals, Value.category]; done) | rfl
theorem own_pf13 : plainFor (⟨"com/example/moratuwa/moratuwa/limit/Algorithm$Step", "state", "()Ljava/lang/Object;"⟩ : MethodName) = true := by first | exact plainFor_of_name (by first | (simp [plainName, overriddenIn]; done) | decide +kernel) | decide +kernel
set_option maxRecDepth 65536 in
set_option maxHeartbeats 40000000 in
theorem own_rm13 (l : Launch) (Z : State) (a0 : Array Value) (hw : ∀ d ∈ tables_1, d.before a0 Z = true) (a1 : Addr) (a2 : Addr) (h0 : Heap) (n0 : Nat) (Z0 : n0 ≤ h0.size) (E_a1 : Exa Z h0 a1 "com/example/moratuwa/moratuwa/limit/Algorithm$Step") (F_state_a1 : Fld Z h0 a1 "com/example/moratuwa/moratuwa/limit/Algorithm$Step" "state" "Ljava/lang/Object;" (.ref a2)) :
    own_Con l Z (⟨"com/example/moratuwa/moratuwa/limit/Algorithm$Step", "state", "()Ljava/lang/Object;"⟩ : MethodName) prog_16_method_5_code 1 (some (.object "java/lang/Object")) ({ frames := 0, cells := 0, slots := 0, locals := 0 } : Room) #[(.ref a1)] h0 n0 (fun v h => v = some (.ref a2) ∧ h = h0) := by
  refine own_enter own_pf13 Z0 (own_ef13 a1) ?_
  intro p e s m below meth c T0 X0 hret hnm
  refine own_aloadN X0 own_d13_0 (pc' := 1) rfl (v := (.ref a1)) rfl rfl ?_
  refine own_getF X0 (hw _ (List.mem_of_getElem? (i := 87) rfl)) F_state_a1 own_d13_1 (pc' := 4) rfl fun T1 X2 => ?_
  refine own_aret X2 (t := (.object "java/lang/Object")) hret rfl rfl rfl own_d13_4 (by decide) (by decide) ?_
  exact ⟨rfl, rfl⟩
theorem own_d15_0 : decode prog_21_method_5_code 0 = .ok (.aload_n 0, 1) := by decide +kernel
theorem own_d15_1 : decode prog_21_method_5_code 1 = .ok (.getfield 7, 3) := by decide +kernel
theorem own_d15_4 : decode prog_21_method_5_code 4 = .ok (.lreturn, 1) := by decide +kernel
theorem own_ef15 (a1 : Addr) (m : MethodId) : entryFrame m #[(.ref a1)] 1 = mkF m 0 #[.val (.ref a1)] [] := by first | (simp [entryFrame, mkF, argsToLocals, Value.category]; done) | rfl
theorem own_pf15 : plainFor (⟨"com/example/moratuwa/moratuwa/limit/FixedWindow$Count", "windowStartMicros", "()J"⟩ : MethodName) = true := by first | exact plainFor_of_name (by first | (simp [plainName, overriddenIn]; done) | decide +kernel) | decide +kernel
def own_F15 (w1 : Int64) : Int64 := w1
set_option maxRecDepth 65536 in
set_option maxHeartbeats 40000000 in
theorem own_rm15 (l : Launch) (Z : State) (a0 : Array Value) (hw : ∀ d ∈ tables_1, d.before a0 Z = true) (a1 : Addr) (w1 : Int64) (h0 : Heap) (n0 : Nat) (Z0 : n0 ≤ h0.size) (E_a1 : Exa Z h0 a1 "com/example/moratuwa/moratuwa/limit/FixedWindow$Count") (F_windowStartMicros_a1 : Fld Z h0 a1 "com/example/moratuwa/moratuwa/limit/FixedWindow$Count" "windowStartMicros" "J" (.long w1)) :
    own_Con l Z (⟨"com/example/moratuwa/moratuwa/limit/FixedWindow$Count", "windowStartMicros", "()J"⟩ : MethodName) prog_21_method_5_code 1 (some .long) ({ frames := 0, cells := 0, slots := 0, locals := 0 } : Room) #[(.ref a1)] h0 n0 (fun v h => v = some (.long (own_F15 w1)) ∧ h = h0) := by
  refine own_enter own_pf15 Z0 (own_ef15 a1) ?_
  intro p e s m below meth c T0 X0 hret hnm
  refine own_aloadN X0 own_d15_0 (pc' := 1) rfl (v := (.ref a1)) rfl rfl ?_
  refine own_getF X0 (hw _ (List.mem_of_getElem? (i := 79) rfl)) F_windowStartMicros_a1 own_d15_1 (pc' := 4) rfl fun T1 X2 => ?_
  refine own_lret X2 hret own_d15_4 (by decide) (by decide) ?_
  exact ⟨congrArg (fun t => some (Value.long t)) (show w1 = own_F15 w1 from rfl), rfl⟩
theorem own_pd8 : parseMethodDescriptor "()J" = some ⟨[], some .long⟩ := by decide +kernel
theorem own_d14_0 : decode prog_20_method_3_code 0 = .ok (.aload_n 1, 1) := by decide +kernel
theorem own_d14_1 : decode prog_20_method_3_code 1 = .ok (.invokevirtual 32, 3) := by decide +kernel
theorem own_d14_4 : decode prog_20_method_3_code 4 = .ok (.aload_n 0, 1) := by decide +kernel
theorem own_d14_5 : decode prog_20_method_3_code 5 = .ok (.getfield 21, 3) := by decide +kernel
theorem own_d14_8 : decode prog_20_method_3_code 8 = .ok (.i2l, 1) := by decide +kernel
theorem own_d14_9 : decode prog_20_method_3_code 9 = .ok (.ldc2_w 24, 3) := by decide +kernel
theorem own_d14_12 : decode prog_20_method_3_code 12 = .ok (.lmul, 1) := by decide +kernel
theorem own_d14_13 : decode prog_20_method_3_code 13 = .ok (.ladd, 1) := by decide +kernel
theorem own_d14_14 : decode prog_20_method_3_code 14 = .ok (.lreturn, 1) := by decide +kernel
theorem own_ef14 (a1 : Addr) (a2 : Addr) (m : MethodId) : entryFrame m #[(.ref a1), (.ref a2)] 2 = mkF m 0 #[.val (.ref a1), .val (.ref a2)] [] := by first | (simp [entryFrame, mkF, argsToLocals, Value.category]; done) | rfl
theorem own_pf14 : plainFor (⟨"com/example/moratuwa/moratuwa/limit/FixedWindow", "expiresAtMicros", "(Lcom/example/moratuwa/moratuwa/limit/FixedWindow$Count;)J"⟩ : MethodName) = true := by first | exact plainFor_of_name (by first | (simp [plainName, overriddenIn]; done) | decide +kernel) | decide +kernel
def own_F14 (w1 : Int32) (w2 : Int64) : Int64 := ((own_F15 w2) + ((w1.toInt64) * (1000000 : Int64)))
set_option maxRecDepth 65536 in
set_option maxHeartbeats 40000000 in
theorem own_rm14 (l : Launch) (Z : State) (a0 : Array Value) (hw : ∀ d ∈ tables_1, d.before a0 Z = true) (a1 : Addr) (w1 : Int32) (a2 : Addr) (w2 : Int64) (h0 : Heap) (n0 : Nat) (Z0 : n0 ≤ h0.size) (E_a1 : Exa Z h0 a1 "com/example/moratuwa/moratuwa/limit/FixedWindow") (F_windowSeconds_a1 : Fld Z h0 a1 "com/example/moratuwa/moratuwa/limit/FixedWindow" "windowSeconds" "I" (.int w1)) (E_a2 : Exa Z h0 a2 "com/example/moratuwa/moratuwa/limit/FixedWindow$Count") (F_windowStartMicros_a2 : Fld Z h0 a2 "com/example/moratuwa/moratuwa/limit/FixedWindow$Count" "windowStartMicros" "J" (.long w2)) :
    own_Con l Z (⟨"com/example/moratuwa/moratuwa/limit/FixedWindow", "expiresAtMicros", "(Lcom/example/moratuwa/moratuwa/limit/FixedWindow$Count;)J"⟩ : MethodName) prog_20_method_3_code 2 (some .long) ({ frames := 1, cells := 0, slots := 0, locals := 12 } : Room) #[(.ref a1), (.ref a2)] h0 n0 (fun v h => v = some (.long (own_F14 w1 w2)) ∧ h = h0) := by
  refine own_enter own_pf14 Z0 (own_ef14 a1 a2) ?_
  intro p e s m below meth c T0 X0 hret hnm
  refine own_aloadN X0 own_d14_0 (pc' := 1) rfl (v := (.ref a2)) rfl rfl ?_
  refine own_callV X0 (C := "com/example/moratuwa/moratuwa/limit/FixedWindow$Count") (a := a2) (argsL := []) (S := []) (own_rm15 l Z a0 hw a2 w2 h0 n0 X0.2.2.2.2.2.2.2.2.1 E_a2 F_windowStartMicros_a2) E_a2 (hw _ (List.mem_of_getElem? (i := 103) rfl)) (hw _ (List.mem_of_getElem? (i := 104) rfl)) (hw _ (List.mem_of_getElem? (i := 106) rfl)) (hw _ (List.mem_of_getElem? (i := 105) rfl)) (hw _ (List.mem_of_getElem? (i := 74) rfl)) (hw _ (List.mem_of_getElem? (i := 107) rfl)) (by decide) (by decide) 0 (by decide) rfl own_pd8 rfl rfl (Nat.le_of_eq rfl) (by decide) (by decide) own_d14_1 (pc' := 4) rfl rfl fun T1 h2 lc3 r4 X5 Q6 => ?_
  obtain ⟨rfl, e7⟩ := Q6
  replace e7 := e7.symm
  subst e7
  show own_E p e below _ (T1.setTop (mkF m 4 #[.val (.ref a1), .val (.ref a2)] [(.long (own_F15 w2))]))
  refine own_aloadN X5 own_d14_4 (pc' := 5) rfl (v := (.ref a1)) rfl rfl ?_
  refine own_getF X5 (hw _ (List.mem_of_getElem? (i := 34) rfl)) F_windowSeconds_a1 own_d14_5 (pc' := 8) rfl fun T8 X9 => ?_
  refine own_i2l X9 own_d14_8 (pc' := 9) rfl (z := (w1.toInt64)) rfl ?_
  refine own_ldc2 X9 (hw _ (List.mem_of_getElem? (i := 41) rfl)) own_d14_9 (pc' := 12) rfl ?_
  refine own_lmul X9 own_d14_12 (pc' := 13) rfl (z := ((w1.toInt64) * (1000000 : Int64))) rfl ?_
  refine own_ladd X9 own_d14_13 (pc' := 14) rfl (z := ((own_F15 w2) + ((w1.toInt64) * (1000000 : Int64)))) rfl ?_
  refine own_lret X9 hret own_d14_14 (by decide) (by decide) ?_
  exact ⟨congrArg (fun t => some (Value.long t)) (show ((own_F15 w2) + ((w1.toInt64) * (1000000 : Int64))) = own_F14 w1 w2 from rfl), rfl⟩
theorem own_pd9 : parseMethodDescriptor "(II)I" = some ⟨[.int, .int], some .int⟩ := by decide +kernel
theorem own_pd10 : parseMethodDescriptor "(II)V" = some ⟨[.int, .int], none⟩ := by decide +kernel
theorem own_pd11 : parseMethodDescriptor "(Lcom/example/moratuwa/moratuwa/limit/FixedWindow$Count;J)Lcom/example/moratuwa/moratuwa/limit/Algorithm$Step;" = some ⟨[(.object "com/example/moratuwa/moratuwa/limit/FixedWindow$Count"), .long], some (.object "com/example/moratuwa/moratuwa/limit/Algorithm$Step")⟩ := by decide +kernel
theorem own_pd12 : parseMethodDescriptor "()Ljava/lang/Object;" = some ⟨[], some (.object "java/lang/Object")⟩ := by decide +kernel
theorem own_pd13 : parseMethodDescriptor "(Lcom/example/moratuwa/moratuwa/limit/FixedWindow$Count;)J" = some ⟨[(.object "com/example/moratuwa/moratuwa/limit/FixedWindow$Count")], some .long⟩ := by decide +kernel
theorem own_ef0 (p1 : Int32) (p2 : Int32) (q3 : Int64) (m : MethodId) : entryFrame m #[(.int p1), (.int p2), (.long q3)] maxLocals = mkF m 0 #[.val (.int p1), .val (.int p2), .val (.long q3), .second, .unset, .unset, .unset, .unset, .unset, .unset, .unset, .unset, .unset] [] := by first | (simp [entryFrame, mkF, argsToLocals, Value.category, maxLocals]; done) | rfl
theorem own_pf0 : plainFor x = true := by first | exact plainFor_of_name (by first | (simp [plainName, overriddenIn]; done) | decide +kernel) | decide +kernel
def own_v0_6 (p1 : Int32) : Int32 := ((p1 &&& (7 : Int32)) + (1 : Int32))
def own_v0_16 (p2 : Int32) : Int32 := (own_F1 (1 : Int32) (p2 &&& (2147483647 : Int32)))
def own_v0_55 (p2 : Int32) (q3 : Int64) : Int64 := (own_F14 (own_v0_16 p2) (own_v6_20 (own_v0_16 p2) (q3 >>> (1 : Int64))))
def own_v0_64 (p2 : Int32) : Int64 := (((own_v0_16 p2).toInt64) * (1000000 : Int64))
def own_F0 (p1 : Int32) (p2 : Int32) (q3 : Int64) : Int32 := (if (q3 >>> (1 : Int64)) < (own_v0_55 p2 q3) then (if (own_v0_64 p2) < ((own_v0_55 p2 q3) - (q3 >>> (1 : Int64))) then (0 : Int32) else (if ((own_v0_55 p2 q3) % (own_v0_64 p2)) = (0 : Int64) then (1 : Int32) else (0 : Int32))) else (0 : Int32))
-- LEMMAS
theorem own_lv (p1 : Int32) : (own_v0_6 p1).toInt = p1.toInt % 8 + 1 :=
  own_AI (show (p1 &&& 7).toInt = p1.toInt % 8 from own_mk (k := 3) (by decide) (by decide)) (show (1 : Int32).toInt = 1 from rfl) (by omega) (by omega)
theorem own_l1 (p1 : Int32) : ¬ own_v0_6 p1 < (1 : Int32) := by
  have e1 : (1 : Int32).toInt = 1 := rfl
  rw [own_lt, own_lv]; omega
theorem own_l0 (p1 : Int32) : (0 : Int32) < own_v0_6 p1 := by
  have e0 : (0 : Int32).toInt = 0 := rfl
  rw [own_lt, own_lv]; omega
theorem own_wv (p2 : Int32) : 1 ≤ (own_v0_16 p2).toInt ∧ (own_v0_16 p2).toInt < 2147483648 := by
  have e1 : (1 : Int32).toInt = 1 := rfl
  have a : (p2 &&& 2147483647).toInt = p2.toInt % 2147483648 := own_mk (k := 31) (by decide) (by decide)
  rw [own_v0_16, own_F1]
  by_cases c : (1 : Int32) < (p2 &&& 2147483647)
  · rw [if_pos c]; rw [own_lt] at c; omega
  · rw [if_neg c]; omega
theorem own_w1 (p2 : Int32) : ¬ own_v0_16 p2 < (1 : Int32) := by
  have e1 : (1 : Int32).toInt = 1 := rfl
  have := own_wv p2
  rw [own_lt]; omega
theorem own_wm (p2 : Int32) : ((own_v0_16 p2).toInt64 * (1000000 : Int64)).toInt = (own_v0_16 p2).toInt * 1000000 := by
  have := own_wv p2
  exact own_ML (Int32.toInt_toInt64 _) (show (1000000 : Int64).toInt = 1000000 from rfl) (by omega) (by omega)
theorem own_wz (p2 : Int32) : (own_v0_16 p2).toInt64 * (1000000 : Int64) ≠ (0 : Int64) := by
  have := own_wv p2
  have e0 : (0 : Int64).toInt = 0 := rfl
  intro q
  rw [own_eqL, own_wm] at q; omega
-- END LEMMAS

set_option maxRecDepth 65536 in
set_option maxHeartbeats 40000000 in
theorem own_rm0 (l : Launch) (Z : State) (a0 : Array Value) (hw : ∀ d ∈ tables_1, d.before a0 Z = true) (p1 : Int32) (p2 : Int32) (q3 : Int64) (h0 : Heap) (n0 : Nat) (Z0 : n0 ≤ h0.size) :
    own_ConW l Z x code maxLocals ret room_1 #[(.int p1), (.int p2), (.long q3)] h0 n0 (fun v h => v = some (.int (own_F0 p1 p2 q3))) := by
  refine own_enterW own_pf0 Z0 (own_ef0 p1 p2 q3) ?_
  intro p e s m below meth c T0 X0 hS0 hret hnm
  refine own_iloadN X0 at_0 (pc' := 1) rfl (v := p1) rfl ?_
  refine own_bipush X0 at_1 (pc' := 3) rfl (z := (7 : Int32)) rfl ?_
  refine own_iand X0 at_3 (pc' := 4) rfl (z := (p1 &&& (7 : Int32))) rfl ?_
  refine own_iconst X0 at_4 (pc' := 5) rfl (z := (1 : Int32)) rfl ?_
  refine own_iadd X0 at_5 (pc' := 6) rfl (z := ((p1 &&& (7 : Int32)) + (1 : Int32))) rfl ?_
  refine own_istore X0 at_6 (pc' := 8) rfl (y := (own_v0_6 p1)) rfl (Ls' := #[.val (.int p1), .val (.int p2), .val (.long q3), .second, .val (.int (own_v0_6 p1)), .unset, .unset, .unset, .unset, .unset, .unset, .unset, .unset]) rfl ?_
  refine own_iconst X0 at_8 (pc' := 9) rfl (z := (1 : Int32)) rfl ?_
  refine own_iloadN X0 at_9 (pc' := 10) rfl (v := p2) rfl ?_
  refine own_ldc X0 (hw _ (List.mem_of_getElem? (i := 0) rfl)) at_10 (pc' := 12) rfl ?_
  refine own_iand X0 at_12 (pc' := 13) rfl (z := (p2 &&& (2147483647 : Int32))) rfl ?_
  refine own_callS X0 (argsL := [(.int (1 : Int32)), (.int (p2 &&& (2147483647 : Int32)))]) (S := []) (own_rm1 l Z a0 hw (1 : Int32) (p2 &&& (2147483647 : Int32)) h0 n0 X0.2.2.2.2.2.2.2.2.1 ) (hw _ (List.mem_of_getElem? (i := 1) rfl)) (hw _ (List.mem_of_getElem? (i := 2) rfl)) (hw _ (List.mem_of_getElem? (i := 3) rfl)) (hw _ (List.mem_of_getElem? (i := 4) rfl)) (by decide) (by decide) 0 (by decide) rfl own_pd9 rfl rfl (Nat.le_of_eq rfl) (by decide) (by decide) at_13 (pc' := 16) rfl fun T1 h2 lc3 r4 X5 Q6 => ?_
  obtain ⟨rfl, e7⟩ := Q6
  replace e7 := e7.symm
  subst e7
  show own_E p e below _ (T1.setTop (mkF m 16 #[.val (.int p1), .val (.int p2), .val (.long q3), .second, .val (.int (own_v0_6 p1)), .unset, .unset, .unset, .unset, .unset, .unset, .unset, .unset] [(.int (own_F1 (1 : Int32) (p2 &&& (2147483647 : Int32))))]))
  refine own_istore X5 at_16 (pc' := 18) rfl (y := (own_v0_16 p2)) rfl (Ls' := #[.val (.int p1), .val (.int p2), .val (.long q3), .second, .val (.int (own_v0_6 p1)), .val (.int (own_v0_16 p2)), .unset, .unset, .unset, .unset, .unset, .unset, .unset]) rfl ?_
  refine own_lloadN X5 at_18 (pc' := 19) rfl (v := q3) rfl ?_
  refine own_iconst X5 at_19 (pc' := 20) rfl (z := (1 : Int32)) rfl ?_
  refine own_lshr X5 at_20 (pc' := 21) rfl (z := (q3 >>> (1 : Int64))) rfl ?_
  refine own_lstore X5 at_21 (pc' := 23) rfl (y := (q3 >>> (1 : Int64))) rfl (Ls' := #[.val (.int p1), .val (.int p2), .val (.long q3), .second, .val (.int (own_v0_6 p1)), .val (.int (own_v0_16 p2)), .val (.long (q3 >>> (1 : Int64))), .second, .unset, .unset, .unset, .unset, .unset]) rfl ?_
  refine own_new X5 (hw _ (List.mem_of_getElem? (i := 5) rfl)) (hw _ (List.mem_of_getElem? (i := 6) rfl)) (hw _ (List.mem_of_getElem? (i := 7) rfl)) (by decide) (by decide) at_23 (pc' := 26) rfl fun T9 h10 b8 X11 Ex12 hs13 g14 A15 D16 => ?_
  have hk17 := Nat.le_trans (Nat.zero_le _) Ex12.1
  have F18 : Fld Z h10 b8 "com/example/moratuwa/moratuwa/limit/FixedWindow" "limit" "I" (.int (0 : Int32)) := D16 (Or.inr (hw _ (List.mem_of_getElem? (i := 33) rfl))) (ty := .int) (by decide)
  have F19 : Fld Z h10 b8 "com/example/moratuwa/moratuwa/limit/FixedWindow" "windowSeconds" "I" (.int (0 : Int32)) := D16 (Or.inr (hw _ (List.mem_of_getElem? (i := 35) rfl))) (ty := .int) (by decide)
  refine own_dup X11 at_26 (pc' := 27) rfl rfl ?_
  refine own_iload X11 at_27 (pc' := 29) rfl (v := (own_v0_6 p1)) rfl ?_
  refine own_iload X11 at_29 (pc' := 31) rfl (v := (own_v0_16 p2)) rfl ?_
  refine own_callIW X11 hS0 hk17 (a := b8) (argsL := [(.int (own_v0_6 p1)), (.int (own_v0_16 p2))]) (S := [(.ref b8)]) (own_rm2 l Z a0 hw b8 (own_v0_6 p1) (own_v0_16 p2) h10 n0 X11.2.2.2.2.2.2.2.2.1 A15 F18 F19 g14 (own_l1 p1) (own_w1 p2)) rfl (hw _ (List.mem_of_getElem? (i := 8) rfl)) (hw _ (List.mem_of_getElem? (i := 9) rfl)) (hw _ (List.mem_of_getElem? (i := 7) rfl)) (hw _ (List.mem_of_getElem? (i := 10) rfl)) (by decide) (by decide) 1 (by decide) rfl own_pd10 rfl rfl (Nat.le_of_eq rfl) (by decide) (by decide) at_31 (pc' := 34) rfl fun T20 h21 lc22 r23 vm26 X24 hS27 Q25 => ?_
  obtain ⟨rfl, K28, F29, F30⟩ := Q25
  have A31 := Exa.keep A15 K28
  show own_E p e below _ (T20.setTop (mkF m 34 #[.val (.int p1), .val (.int p2), .val (.long q3), .second, .val (.int (own_v0_6 p1)), .val (.int (own_v0_16 p2)), .val (.long (q3 >>> (1 : Int64))), .second, .unset, .unset, .unset, .unset, .unset] [(.ref b8)]))
  refine own_astore X24 at_34 (pc' := 36) rfl rfl (Ls' := #[.val (.int p1), .val (.int p2), .val (.long q3), .second, .val (.int (own_v0_6 p1)), .val (.int (own_v0_16 p2)), .val (.long (q3 >>> (1 : Int64))), .second, .val (.ref b8), .unset, .unset, .unset, .unset]) rfl ?_
  refine own_aload X24 at_36 (pc' := 38) rfl (v := (.ref b8)) rfl rfl ?_
  refine own_aload X24 at_38 (pc' := 40) rfl (v := (.ref b8)) rfl rfl ?_
  refine own_anull X24 at_40 (pc' := 41) rfl ?_
  refine own_lload X24 at_41 (pc' := 43) rfl (v := (q3 >>> (1 : Int64))) rfl ?_
  refine own_callV X24 (C := "com/example/moratuwa/moratuwa/limit/FixedWindow") (a := b8) (argsL := [.null, (.long (q3 >>> (1 : Int64)))]) (S := [(.ref b8)]) (own_rm6 l Z a0 hw b8 (own_v0_6 p1) (own_v0_16 p2) (q3 >>> (1 : Int64)) h21 n0 X24.2.2.2.2.2.2.2.2.1 A31 F29 F30 (own_l0 p1) (own_wz p2)) A31 (hw _ (List.mem_of_getElem? (i := 36) rfl)) (hw _ (List.mem_of_getElem? (i := 37) rfl)) (hw _ (List.mem_of_getElem? (i := 39) rfl)) (hw _ (List.mem_of_getElem? (i := 38) rfl)) (hw _ (List.mem_of_getElem? (i := 7) rfl)) (hw _ (List.mem_of_getElem? (i := 40) rfl)) (by decide) (by decide) 1 (by decide) rfl own_pd11 rfl rfl (Nat.le_of_eq rfl) (by decide) (by decide) at_43 (pc' := 46) rfl rfl fun T32 h33 lc34 r35 X36 Q37 => ?_
  obtain ⟨b38, b39, rfl, K40, A41, F42, A43, F44⟩ := Q37
  have hk45 := Nat.le_trans (Nat.le_refl _) K40.1
  have A46 := Exa.keep A31 K40
  have F47 := Fld.keep F29 K40 nin0
  have F48 := Fld.keep F30 K40 nin0
  show own_E p e below _ (T32.setTop (mkF m 46 #[.val (.int p1), .val (.int p2), .val (.long q3), .second, .val (.int (own_v0_6 p1)), .val (.int (own_v0_16 p2)), .val (.long (q3 >>> (1 : Int64))), .second, .val (.ref b8), .unset, .unset, .unset, .unset] [(.ref b38), (.ref b8)]))
  refine own_callV X36 (C := "com/example/moratuwa/moratuwa/limit/Algorithm$Step") (a := b38) (argsL := []) (S := [(.ref b8)]) (own_rm13 l Z a0 hw b38 b39 h33 n0 X36.2.2.2.2.2.2.2.2.1 A41 F42) A41 (hw _ (List.mem_of_getElem? (i := 91) rfl)) (hw _ (List.mem_of_getElem? (i := 92) rfl)) (hw _ (List.mem_of_getElem? (i := 94) rfl)) (hw _ (List.mem_of_getElem? (i := 93) rfl)) (hw _ (List.mem_of_getElem? (i := 71) rfl)) (hw _ (List.mem_of_getElem? (i := 95) rfl)) (by decide) (by decide) 1 (by decide) rfl own_pd12 rfl rfl (Nat.le_of_eq rfl) (by decide) (by decide) at_46 (pc' := 49) rfl rfl fun T49 h50 lc51 r52 X53 Q54 => ?_
  obtain ⟨rfl, e55⟩ := Q54
  replace e55 := e55.symm
  subst e55
  show own_E p e below _ (T49.setTop (mkF m 49 #[.val (.int p1), .val (.int p2), .val (.long q3), .second, .val (.int (own_v0_6 p1)), .val (.int (own_v0_16 p2)), .val (.long (q3 >>> (1 : Int64))), .second, .val (.ref b8), .unset, .unset, .unset, .unset] [(.ref b39), (.ref b8)]))
  refine own_cast X53 (hw _ (List.mem_of_getElem? (i := 96) rfl)) (Ins.self A43) at_49 (pc' := 52) rfl fun T56 X57 => ?_
  refine own_callV X57 (C := "com/example/moratuwa/moratuwa/limit/FixedWindow") (a := b8) (argsL := [(.ref b39)]) (S := []) (own_rm14 l Z a0 hw b8 (own_v0_16 p2) b39 (own_v6_20 (own_v0_16 p2) (q3 >>> (1 : Int64))) h33 n0 X57.2.2.2.2.2.2.2.2.1 A46 F48 A43 F44) A46 (hw _ (List.mem_of_getElem? (i := 98) rfl)) (hw _ (List.mem_of_getElem? (i := 99) rfl)) (hw _ (List.mem_of_getElem? (i := 101) rfl)) (hw _ (List.mem_of_getElem? (i := 100) rfl)) (hw _ (List.mem_of_getElem? (i := 7) rfl)) (hw _ (List.mem_of_getElem? (i := 102) rfl)) (by decide) (by decide) 0 (by decide) rfl own_pd13 rfl rfl (Nat.le_of_eq rfl) (by decide) (by decide) at_52 (pc' := 55) rfl rfl fun T58 h59 lc60 r61 X62 Q63 => ?_
  obtain ⟨rfl, e64⟩ := Q63
  replace e64 := e64.symm
  subst e64
  show own_E p e below _ (T58.setTop (mkF m 55 #[.val (.int p1), .val (.int p2), .val (.long q3), .second, .val (.int (own_v0_6 p1)), .val (.int (own_v0_16 p2)), .val (.long (q3 >>> (1 : Int64))), .second, .val (.ref b8), .unset, .unset, .unset, .unset] [(.long (own_F14 (own_v0_16 p2) (own_v6_20 (own_v0_16 p2) (q3 >>> (1 : Int64)))))]))
  refine own_lstore X62 at_55 (pc' := 57) rfl (y := (own_v0_55 p2 q3)) rfl (Ls' := #[.val (.int p1), .val (.int p2), .val (.long q3), .second, .val (.int (own_v0_6 p1)), .val (.int (own_v0_16 p2)), .val (.long (q3 >>> (1 : Int64))), .second, .val (.ref b8), .val (.long (own_v0_55 p2 q3)), .second, .unset, .unset]) rfl ?_
  refine own_iload X62 at_57 (pc' := 59) rfl (v := (own_v0_16 p2)) rfl ?_
  refine own_i2l X62 at_59 (pc' := 60) rfl (z := ((own_v0_16 p2).toInt64)) rfl ?_
  refine own_ldc2 X62 (hw _ (List.mem_of_getElem? (i := 108) rfl)) at_60 (pc' := 63) rfl ?_
  refine own_lmul X62 at_63 (pc' := 64) rfl (z := (((own_v0_16 p2).toInt64) * (1000000 : Int64))) rfl ?_
  refine own_lstore X62 at_64 (pc' := 66) rfl (y := (own_v0_64 p2)) rfl (Ls' := #[.val (.int p1), .val (.int p2), .val (.long q3), .second, .val (.int (own_v0_6 p1)), .val (.int (own_v0_16 p2)), .val (.long (q3 >>> (1 : Int64))), .second, .val (.ref b8), .val (.long (own_v0_55 p2 q3)), .second, .val (.long (own_v0_64 p2)), .second]) rfl ?_
  refine own_lload X62 at_66 (pc' := 68) rfl (v := (own_v0_55 p2 q3)) rfl ?_
  refine own_lload X62 at_68 (pc' := 70) rfl (v := (q3 >>> (1 : Int64))) rfl ?_
  by_cases hc65 : (q3 >>> (1 : Int64)) < (own_v0_55 p2 q3)
  · refine own_ljN X62 at_70 rfl at_71 (own_tltL hc65).2.2.2 (pc' := 74) rfl ?_
    refine own_lload X62 at_74 (pc' := 76) rfl (v := (own_v0_55 p2 q3)) rfl ?_
    refine own_lload X62 at_76 (pc' := 78) rfl (v := (q3 >>> (1 : Int64))) rfl ?_
    refine own_lsub X62 at_78 (pc' := 79) rfl (z := ((own_v0_55 p2 q3) - (q3 >>> (1 : Int64)))) rfl ?_
    refine own_lload X62 at_79 (pc' := 81) rfl (v := (own_v0_64 p2)) rfl ?_
    by_cases hc66 : (own_v0_64 p2) < ((own_v0_55 p2 q3) - (q3 >>> (1 : Int64)))
    · refine own_ljY X62 at_81 rfl at_82 (own_tltL hc66).2.2.1 (by decide) (pc' := 99) rfl ?_
      refine own_iconst X62 at_99 (pc' := 100) rfl (z := (0 : Int32)) rfl ?_
      refine own_iretW X62 hS27 hk45 (t := .boolean) (w := (0 : Int32)) hret (by simp) at_100 rfl (by decide) (by decide) ?_
      exact congrArg (fun t => some (Value.int t)) (show (0 : Int32) = own_F0 p1 p2 q3 from (by rw [own_F0, if_pos hc65, if_pos hc66]))
    · refine own_ljN X62 at_81 rfl at_82 (own_fltL hc66).2.2.1 (pc' := 85) rfl ?_
      refine own_lload X62 at_85 (pc' := 87) rfl (v := (own_v0_55 p2 q3)) rfl ?_
      refine own_lload X62 at_87 (pc' := 89) rfl (v := (own_v0_64 p2)) rfl ?_
      refine own_lrem X62 at_89 (pc' := 90) rfl (own_wz p2) (z := ((own_v0_55 p2 q3) % (own_v0_64 p2))) (own_lremE _ _) ?_
      refine own_lconst X62 at_90 (pc' := 91) rfl (z := (0 : Int64)) rfl ?_
      by_cases hc67 : ((own_v0_55 p2 q3) % (own_v0_64 p2)) = (0 : Int64)
      · refine own_ljN X62 at_91 rfl at_92 (own_teqL hc67).2 (pc' := 95) rfl ?_
        refine own_iconst X62 at_95 (pc' := 96) rfl (z := (1 : Int32)) rfl ?_
        refine own_goto X62 at_96 (by decide) (pc' := 100) rfl ?_
        refine own_iretW X62 hS27 hk45 (t := .boolean) (w := (1 : Int32)) hret (by simp) at_100 rfl (by decide) (by decide) ?_
        exact congrArg (fun t => some (Value.int t)) (show (1 : Int32) = own_F0 p1 p2 q3 from (by rw [own_F0, if_pos hc65, if_neg hc66, if_pos hc67]))
      · refine own_ljY X62 at_91 rfl at_92 (own_feqL hc67).2 (by decide) (pc' := 99) rfl ?_
        refine own_iconst X62 at_99 (pc' := 100) rfl (z := (0 : Int32)) rfl ?_
        refine own_iretW X62 hS27 hk45 (t := .boolean) (w := (0 : Int32)) hret (by simp) at_100 rfl (by decide) (by decide) ?_
        exact congrArg (fun t => some (Value.int t)) (show (0 : Int32) = own_F0 p1 p2 q3 from (by rw [own_F0, if_pos hc65, if_neg hc66, if_neg hc67]))
  · refine own_ljY X62 at_70 rfl at_71 (own_fltL hc65).2.2.2 (by decide) (pc' := 99) rfl ?_
    refine own_iconst X62 at_99 (pc' := 100) rfl (z := (0 : Int32)) rfl ?_
    refine own_iretW X62 hS27 hk45 (t := .boolean) (w := (0 : Int32)) hret (by simp) at_100 rfl (by decide) (by decide) ?_
    exact congrArg (fun t => some (Value.int t)) (show (0 : Int32) = own_F0 p1 p2 q3 from (by rw [own_F0, if_neg hc65]))
theorem own_fd {t w : Int64} {T D : Int} (ht : t.toInt = T) (hw : w.toInt = D) (hD : 0 < D) (hD2 : D < 4611686018427387904) (hT : -4611686018427387904 ≤ T) (hT2 : T < 4611686018427387904) :
    ∃ P r : Int, (own_F7 t w * w).toInt = P ∧ T = P + r ∧ 0 ≤ r ∧ r < D ∧ ∃ k : Int, P = k * D := by
  have e0 : (0 : Int64).toInt = 0 := rfl
  have e1 : (1 : Int64).toInt = 1 := rfl
  have hm1 : w ≠ -1 := by
    intro q; rw [q] at hw; have : (-1 : Int64).toInt = -1 := rfl; omega
  obtain ⟨dp, dn⟩ := c_ldiv t w D hw hm1
  obtain ⟨x1, x2, x3, x4⟩ := c_xorSL t w
  rw [own_F7]
  by_cases c : 0 ≤ T
  · have q := dp (by omega)
    rw [ht] at q
    rw [if_neg (by rw [own_ltL, e0]; have := x4 (by omega) (by omega); omega)]
    have h1 := Int.emod_def T D
    have h2 := Int.emod_nonneg T (show D ≠ 0 by omega)
    have h3 := Int.emod_lt_of_pos T hD
    have hc := Int.mul_comm (T / D) D
    have q2 : ((t / w) * w).toInt = T / D * D := own_ML q hw (by omega) (by omega)
    exact ⟨T / D * D, T % D, q2, by omega, h2, h3, _, rfl⟩
  · have q := dn (by omega)
    rw [ht] at q
    rw [if_pos (by rw [own_ltL, e0]; exact x2 (by omega) (by omega))]
    have h1 := Int.emod_def (-T) D
    have h2 := Int.emod_nonneg (-T) (show D ≠ 0 by omega)
    have h3 := Int.emod_lt_of_pos (-T) hD
    have hc : -(-T / D) * D = -(D * (-T / D)) := by rw [Int.neg_mul, Int.mul_comm]
    have q2 : ((t / w) * w).toInt = -(-T / D) * D := own_ML q hw (by omega) (by omega)
    by_cases ce : t / w * w = t
    · rw [if_pos ce, ce]
      have e : T = -(-T / D) * D := by rw [← q2, ce, ht]
      exact ⟨T, 0, ht, by omega, by omega, hD, _, e⟩
    · rw [if_neg ce]
      have hne : -(-T / D) * D ≠ T := fun z => ce (by rw [own_eqL, q2, ht]; exact z)
      have hl := Int64.le_toInt (t / w)
      have hb : -4611686018427387904 ≤ (t / w).toInt := by
        have : (-T) / D ≤ -T := Int.ediv_le_self _ (by omega)
        omega
      have hb2 : (t / w).toInt ≤ 0 := by
        have : 0 ≤ (-T) / D := Int.ediv_nonneg (by omega) (by omega)
        omega
      have q3 : (t / w - 1).toInt = -(-T / D) - 1 := own_SL q e1 (by omega) (by omega)
      have hc3 : (-(-T / D) - 1) * D = -(-T / D) * D - D := by rw [Int.sub_mul, Int.one_mul]
      have q4 : ((t / w - 1) * w).toInt = (-(-T / D) - 1) * D := own_ML q3 hw (by omega) (by omega)
      exact ⟨(-(-T / D) - 1) * D, D - (-T) % D, q4, by omega, by omega, by omega, _, rfl⟩
theorem own_key {P D T r : Int} (h : T = P + r) (h0 : 0 ≤ r) (h1 : r < D) : T < P + D ∧ ¬ D < P + D - T := by omega
theorem own_bnd {P D T r : Int} (h : T = P + r) (h0 : 0 ≤ r) (h1 : r < D) (h2 : -4611686018427387904 ≤ T) (h3 : T < 4611686018427387904) (h4 : D < 4611686018427387904) : (-9223372036854775808 ≤ P + D ∧ P + D < 9223372036854775808) ∧ -9223372036854775808 ≤ P + D - T ∧ P + D - T < 9223372036854775808 := by omega
theorem own_law {t w f : Int64} {T D : Int} (ht : t.toInt = T) (hw : w.toInt = D) (hD : 0 < D) (hD2 : D < 4611686018427387904) (hT : -4611686018427387904 ≤ T) (hT2 : T < 4611686018427387904) (hf : f = own_F7 t w * w + w) : t < f ∧ ¬ w < f - t ∧ f % w = 0 := by
  obtain ⟨P, r, hP, hTr, h0, h1, k, hk⟩ := own_fd ht hw hD hD2 hT hT2
  obtain ⟨⟨b1, b2⟩, b3, b4⟩ := own_bnd hTr h0 h1 hT hT2 hD2
  obtain ⟨c1, c2⟩ := own_key hTr h0 h1
  have hE : f.toInt = P + D := by rw [hf]; exact own_AL hP hw b1 b2
  have hS : (f - t).toInt = P + D - T := own_SL hE ht b3 b4
  refine ⟨own_ltL.mpr (by rw [ht, hE]; exact c1), fun q => c2 (by rw [own_ltL, hw, hS] at q; exact q), ?_⟩
  rw [own_eqL, Int64.toInt_mod, hE, hw, hk, show k * D + D = (k + 1) * D by rw [Int.add_mul, Int.one_mul]]
  exact Int.mul_tmod_left _ _
theorem own_plain (p1 p2 : Int32) (q3 : Int64) : own_F0 p1 p2 q3 = 1 := by
  have hw := own_wv p2
  have hW : (own_v0_64 p2).toInt = (own_v0_16 p2).toInt * 1000000 := by rw [own_v0_64]; exact own_wm p2
  have hT : (q3 >>> (1 : Int64)).toInt = q3.toInt / 2 := by
    show (q3.toBitVec.sshiftRight' ((1 : Int64).toBitVec.smod (BitVec.ofNat 64 64))).toInt = _
    rw [BitVec.toInt_sshiftRight', Int.shiftRight_eq_div_pow]; rfl
  have l1 := Int64.le_toInt q3
  have l2 := Int64.toInt_lt q3
  have hv : own_v0_55 p2 q3 = own_F7 (q3 >>> (1 : Int64)) (own_v0_64 p2) * own_v0_64 p2 + own_v0_64 p2 := by
    simp only [own_v0_55, own_F14, own_F15, own_v6_20, own_v6_9, own_v0_64]
  obtain ⟨c1, c2, c3⟩ := own_law hT hW (by omega) (by omega) (by omega) (by omega) hv
  rw [own_F0]
  exact own_yes c1 (own_no c2 (own_yes c3 rfl))
set_option maxRecDepth 65536 in
set_option maxHeartbeats 40000000 in
theorem own_comes {Post : Tables → Env → Array Value → State → Outcome → State → Prop} (hpost : ∀ tb e args s v u, (limb_1_1.after args s (.returned v) u = true ∧ limb_1_2.after args s (.returned v) u = true) → FramedW s (.returned v) u (Jvm.fieldLocs frame_1_writes args s ++ Jvm.arrayLocs frame_1_arrays args s ++ Jvm.staticLocs frame_1_statics s) 24 1152 → Post tb e args s (.returned v) u) :
    ArmFor flags0 classFile x code maxLocals ret World_1 tables_1 room_1 Calls_1 rest_1 Pre_1 Post := by
  intro l hfl _ _ p e ha hc hk s m args below hf hA hF happ hP
  obtain ⟨hcalls, hrest, hpre⟩ := hP
  obtain ⟨-, -, -, hnamed, -, -, -, hat⟩ := (Spec.applies_iff hf).mp happ
  obtain ⟨hg, hn⟩ := and_e (Cond.before_iff.mp (show (Jvm.Cond.and given_1 narrow_1).before args s = true from hpre))
  obtain ⟨g1, g2⟩ := and_e hg
  obtain ⟨g3, g4⟩ := and_e g2
  obtain ⟨g5, g6⟩ := and_e g4
  obtain ⟨w0, w1, w2, rfl⟩ : ∃ w0 w1 w2 : Value, args = #[w0, w1, w2] := by
    have hs : args.size = 3 := by simpa [Cond.value, given_1] using g1
    obtain ⟨L⟩ := args
    match L, hs with
    | [w0, w1, w2], _ => exact ⟨w0, w1, w2, rfl⟩
  have hw := fun d (hd : d ∈ tables_1) => atoms_spec (ws := Jvm.Cond.code x code maxLocals ret :: tables_1) hat d (List.mem_cons_of_mem _ hd)
  obtain ⟨i0, ei0⟩ := is_v g3
  obtain rfl : w0 = (.int i0) := Option.some.inj ei0
  obtain ⟨i1, ei1⟩ := is_v g5
  obtain rfl : w1 = (.int i1) := Option.some.inj ei1
  obtain ⟨i2, ei2⟩ := isL_v g6
  obtain rfl : w2 = (.long i2) := Option.some.inj ei2
  obtain ⟨n, o, h1, h2, h3, v, L, rfl, ⟨hq1, N, _⟩, hq⟩ := own_rm0 l s _ hw i0 i1 i2 s.heap s.heap.size (Nat.le_refl _)  tables_1 p e ha hc hk s m _ below hf ((Spec.applies_iff_loose hf).mp happ).1 ⟨rfl, State.Warmed39.refl s, rfl⟩ trivial
  obtain rfl : v = some (.int 1) := by rw [hq1, own_plain i0 i1 i2]
  exact ⟨n, _, h1, h2, h3, hpost _ _ _ _ _ _ ⟨Cond.after_iff.mpr rfl, Cond.after_iff.mpr (eq_i res_at (Term.int_eval (1)) rfl)⟩ ⟨hq.1, hq.2.1, hq.2.2.1, (hq.2.2.2.sift fun y hy => Or.inr (N y hy)).mono (by decide) (by decide)⟩⟩
theorem main_1_1 : Claimed_1_1 := own_comes fun _ _ _ _ _ _ h hF => ⟨h.1, hF⟩
theorem main_1_2 : Claimed_1_2 := own_comes fun _ _ _ _ _ _ h hF => ⟨h.2, hF⟩
end Jvm.Pilot.@@N@@
namespace Jvm.Pilot.@@N@@
open Jvm Jvm.ClassFile Sem Op Lib Jvm.Free Jvm.Stand Jvm.Pilot.@@N@@.Jvm.D
/-! MADE BY PROGRAM (witnessworld.py) out of the Statement's table words and the real class files: 20 classes; the members and pool entries that the words name. The judged class is class 1, her method 1. -/
namespace start1
open Jvm.ClassFile
def u (s : String) : CpInfo := .utf8 (stringToUtf16 s)
/-- a pool by its gaps: so many unusable entries, then the entry; so many at the end -/
def gap : Nat → List CpInfo → List CpInfo
  | 0, r => r
  | n + 1, r => .unusable :: gap n r
def poolList (es : List (Nat × CpInfo)) (last : Nat) : List CpInfo := es.foldr (fun e r => gap e.1 (e.2 :: r)) (gap last [])
def pool (es : List (Nat × CpInfo)) (last : Nat) : Array CpInfo := ⟨poolList es last⟩
def fileOf (pool : Array CpInfo) (this : Nat) (attrs : Array Attribute := #[]) (ms : Array MethodInfo := #[]) (fl : Nat := 33) (sup : Nat := 0) (ifs : Array Nat := #[]) (fds : Array FieldInfo := #[]) : ClassFile where
  minorVersion := 0
  majorVersion := 65
  constantPool := pool
  accessFlags := fl
  thisClass := this
  superClass := sup
  interfaces := ifs
  fields := fds
  methods := ms
  attributes := attrs
def plain (name : String) (sup : Option ClassId) : Class where
  name := name
  kind := .ordinary
  loader := none
  accessFlags := 33
  super := sup
  interfaces := #[]
  cf := none
  fields := #[]
  methods := #[]
  instanceTypes := #[]
  staticTypes := #[]
  resolved := #[]
  callSites := []
  init := .initialized
  statics := none
  mirror := none

def pool0 : Array CpInfo := pool [(5, u "<init>"), (0, u "()V"), (1, .class_ 10), (1, u "java/lang/Object")] 113

def k0c0 : Code := { maxStack := 0, maxLocals := 1, code := object_method_1_code, exceptionTable := #[], attributes := #[] }
def k0m0 : Method := { name := "<init>", desc := "()V", sig := { parameters := [], returnType := none }, accessFlags := 1, code := some k0c0 }
/-- java/lang/Object -/
def k0 : Class := { plain "java/lang/Object" none with
  accessFlags := 33
  interfaces := #[]
  cf := some (fileOf pool0 8 #[] #[{ accessFlags := 1, nameIndex := 5, descriptorIndex := 6, attributes := #[] }] 33 0 #[] #[])
  fields := #[]
  methods := #[k0m0]
  instanceTypes := #[]
  staticTypes := #[]
  resolved := Array.replicate 124 none
  statics := none }

def pool1 : Array CpInfo := pool [(2, .class_ 4), (1, u "java/lang/Object"), (0, u "<init>"), (0, u "()V"), (0, .integer 2147483647), (0, .methodref 9 10), (0, .class_ 11), (0, .nameAndType 12 13), (0, u "java/lang/Math"), (0, u "max"), (0, u "(II)I"), (0, .class_ 15), (0, u "com/example/moratuwa/moratuwa/limit/FixedWindow"), (0, .methodref 14 17), (0, .nameAndType 5 18), (0, u "(II)V"), (0, .methodref 14 20), (0, .nameAndType 21 22), (0, u "decide"), (0, u "(Lcom/example/moratuwa/moratuwa/limit/FixedWindow$Count;J)Lcom/example/moratuwa/moratuwa/limit/Algorithm$Step;"), (0, .methodref 24 25), (0, .class_ 26), (0, .nameAndType 27 28), (0, u "com/example/moratuwa/moratuwa/limit/Algorithm$Step"), (0, u "state"), (0, u "()Ljava/lang/Object;"), (0, .class_ 30), (0, u "com/example/moratuwa/moratuwa/limit/FixedWindow$Count"), (0, .methodref 14 32), (0, .nameAndType 33 34), (0, u "expiresAtMicros"), (0, u "(Lcom/example/moratuwa/moratuwa/limit/FixedWindow$Count;)J"), (0, .long 1000000), (1, .class_ 38), (0, u "com/example/moratuwa/moratuwa/limit/FixedWindowExpiresAtMicrosPinLaw"), (2, u "law"), (0, u "(IIJ)Z")] 8

def k1m0 : Method := { name := "<init>", desc := "()V", sig := { parameters := [], returnType := none }, accessFlags := 1, code := none }
def k1c1 : Code := { maxStack := 5, maxLocals := 13, code := code, exceptionTable := #[], attributes := #[] }
def k1m1 : Method := { name := "law", desc := "(IIJ)Z", sig := { parameters := [.int, .int, .long], returnType := some .boolean }, accessFlags := 9, code := some k1c1 }
/-- com/example/moratuwa/moratuwa/limit/FixedWindowExpiresAtMicrosPinLaw -/
def k1 : Class := { plain "com/example/moratuwa/moratuwa/limit/FixedWindowExpiresAtMicrosPinLaw" (some 0) with
  accessFlags := 49
  interfaces := #[]
  cf := some (fileOf pool1 37 #[] #[{ accessFlags := 1, nameIndex := 5, descriptorIndex := 6, attributes := #[] }, { accessFlags := 9, nameIndex := 41, descriptorIndex := 42, attributes := #[] }] 49 2 #[] #[])
  fields := #[]
  methods := #[k1m0, k1m1]
  instanceTypes := #[]
  staticTypes := #[]
  resolved := Array.replicate 51 none
  statics := none }

def pool2 : Array CpInfo := pool [(1, .class_ 2), (0, u "java/lang/Math"), (1, .class_ 6), (1, u "java/lang/Object"), (0, u "<init>"), (0, u "()V"), (89, .class_ 100), (1, u "java/lang/Math$RandomNumberGeneratorHolder"), (20, u "(JJ)J"), (23, u "floorDiv"), (26, u "negativeZeroFloatBits"), (0, u "J"), (2, u "negativeZeroDoubleBits"), (21, u "max"), (46, u "$assertionsDisabled"), (0, u "Z"), (88, u "(II)I"), (2, u "twoToTheDoubleScaleDown"), (0, u "D"), (4, u "twoToTheDoubleScaleUp"), (9, u "E"), (3, u "PI"), (2, u "TAU"), (2, u "DEGREES_TO_RADIANS"), (0, u "RADIANS_TO_DEGREES")] 94

def k2m0 : Method := { name := "<init>", desc := "()V", sig := { parameters := [], returnType := none }, accessFlags := 2, code := none }
def k2c1 : Code := { maxStack := 4, maxLocals := 6, code := jdk_29_method_49_code, exceptionTable := #[], attributes := #[] }
def k2m1 : Method := { name := "floorDiv", desc := "(JJ)J", sig := { parameters := [.long, .long], returnType := some .long }, accessFlags := 9, code := some k2c1 }
def k2c2 : Code := { maxStack := 2, maxLocals := 2, code := jdk_29_method_65_code, exceptionTable := #[], attributes := #[] }
def k2m2 : Method := { name := "max", desc := "(II)I", sig := { parameters := [.int, .int], returnType := some .int }, accessFlags := 9, code := some k2c2 }
/-- java/lang/Math -/
def k2 : Class := { plain "java/lang/Math" (some 0) with
  accessFlags := 49
  interfaces := #[]
  cf := some (fileOf pool2 1 #[.nestMembers #[98]] #[{ accessFlags := 2, nameIndex := 7, descriptorIndex := 8, attributes := #[] }, { accessFlags := 9, nameIndex := 145, descriptorIndex := 121, attributes := #[] }, { accessFlags := 9, nameIndex := 198, descriptorIndex := 335, attributes := #[] }] 49 4 #[] #[{ accessFlags := 25, nameIndex := 354, descriptorIndex := 339, attributes := #[] }, { accessFlags := 25, nameIndex := 358, descriptorIndex := 339, attributes := #[] }, { accessFlags := 25, nameIndex := 361, descriptorIndex := 339, attributes := #[] }, { accessFlags := 26, nameIndex := 364, descriptorIndex := 339, attributes := #[] }, { accessFlags := 26, nameIndex := 365, descriptorIndex := 339, attributes := #[] }, { accessFlags := 26, nameIndex := 172, descriptorIndex := 173, attributes := #[] }, { accessFlags := 26, nameIndex := 176, descriptorIndex := 173, attributes := #[] }, { accessFlags := 8, nameIndex := 344, descriptorIndex := 339, attributes := #[] }, { accessFlags := 8, nameIndex := 338, descriptorIndex := 339, attributes := #[] }, { accessFlags := 4120, nameIndex := 245, descriptorIndex := 246, attributes := #[] }])
  fields := #[{ name := "E", type := .double, accessFlags := 25, slot := 0, constantValue := 0 }, { name := "PI", type := .double, accessFlags := 25, slot := 1, constantValue := 0 }, { name := "TAU", type := .double, accessFlags := 25, slot := 2, constantValue := 0 }, { name := "DEGREES_TO_RADIANS", type := .double, accessFlags := 26, slot := 3, constantValue := 0 }, { name := "RADIANS_TO_DEGREES", type := .double, accessFlags := 26, slot := 4, constantValue := 0 }, { name := "negativeZeroFloatBits", type := .long, accessFlags := 26, slot := 5, constantValue := 0 }, { name := "negativeZeroDoubleBits", type := .long, accessFlags := 26, slot := 6, constantValue := 0 }, { name := "twoToTheDoubleScaleUp", type := .double, accessFlags := 8, slot := 7, constantValue := 0 }, { name := "twoToTheDoubleScaleDown", type := .double, accessFlags := 8, slot := 8, constantValue := 0 }, { name := "$assertionsDisabled", type := .boolean, accessFlags := 4120, slot := 9, constantValue := 0 }]
  methods := #[k2m0, k2m1, k2m2]
  instanceTypes := #[]
  staticTypes := #[.double, .double, .double, .double, .double, .long, .long, .double, .double, .boolean]
  resolved := Array.replicate 460 none
  statics := none }

def pool3 : Array CpInfo := pool [(1, .methodref 2 3), (0, .class_ 4), (0, .nameAndType 5 6), (0, u "java/lang/Object"), (0, u "<init>"), (0, u "()V"), (0, .class_ 8), (0, u "java/lang/Record")] 13

def k3c0 : Code := { maxStack := 1, maxLocals := 1, code := jdk_30_method_1_code, exceptionTable := #[], attributes := #[] }
def k3m0 : Method := { name := "<init>", desc := "()V", sig := { parameters := [], returnType := none }, accessFlags := 4, code := some k3c0 }
/-- java/lang/Record -/
def k3 : Class := { plain "java/lang/Record" (some 0) with
  accessFlags := 1057
  interfaces := #[]
  cf := some (fileOf pool3 7 #[] #[{ accessFlags := 4, nameIndex := 5, descriptorIndex := 6, attributes := #[] }] 1057 2 #[] #[])
  fields := #[]
  methods := #[k3m0]
  instanceTypes := #[]
  staticTypes := #[]
  resolved := Array.replicate 22 none
  statics := none }

def pool4 : Array CpInfo := pool [(2, .class_ 4), (1, u "com/example/moratuwa/moratuwa/limit/Algorithm"), (44, .class_ 50), (0, u "java/lang/Object"), (4, u "requireAtLeastOne"), (0, u "(Ljava/lang/String;[I)V"), (20, .class_ 78), (0, u "com/example/moratuwa/moratuwa/limit/Algorithm$Step")] 33

def k4c0 : Code := { maxStack := 5, maxLocals := 6, code := prog_15_method_4_code, exceptionTable := #[], attributes := #[] }
def k4m0 : Method := { name := "requireAtLeastOne", desc := "(Ljava/lang/String;[I)V", sig := { parameters := [(.object "java/lang/String"), (.array .int)], returnType := none }, accessFlags := 137, code := some k4c0 }
/-- com/example/moratuwa/moratuwa/limit/Algorithm -/
def k4 : Class := { plain "com/example/moratuwa/moratuwa/limit/Algorithm" (some 0) with
  accessFlags := 1537
  interfaces := #[]
  cf := some (fileOf pool4 2 #[.nestMembers #[77]] #[{ accessFlags := 137, nameIndex := 55, descriptorIndex := 56, attributes := #[] }] 1537 49 #[] #[])
  fields := #[]
  methods := #[k4m0]
  instanceTypes := #[]
  staticTypes := #[]
  resolved := Array.replicate 112 none
  statics := none }

def pool5 : Array CpInfo := pool [(1, .methodref 2 3), (0, .class_ 4), (0, .nameAndType 5 6), (0, u "java/lang/Record"), (0, u "<init>"), (0, u "()V"), (0, .string 8), (0, u "limit and window"), (0, .interfaceMethodref 10 11), (0, .class_ 12), (0, .nameAndType 13 14), (0, u "com/example/moratuwa/moratuwa/limit/Algorithm"), (0, u "requireAtLeastOne"), (0, u "(Ljava/lang/String;[I)V"), (0, .fieldref 16 17), (0, .class_ 18), (0, .nameAndType 19 20), (0, u "com/example/moratuwa/moratuwa/limit/FixedWindow"), (0, u "limit"), (0, u "I"), (0, .fieldref 16 22), (0, .nameAndType 23 20), (0, u "windowSeconds"), (0, .long 1000000), (1, .methodref 27 28), (0, .class_ 29), (0, .nameAndType 30 31), (0, u "java/lang/Math"), (0, u "floorDiv"), (0, u "(JJ)J"), (0, .methodref 33 34), (0, .class_ 35), (0, .nameAndType 36 37), (0, u "com/example/moratuwa/moratuwa/limit/FixedWindow$Count"), (0, u "windowStartMicros"), (0, u "()J"), (4, .methodref 43 44), (0, .class_ 45), (0, .nameAndType 46 47), (0, u "com/example/moratuwa/moratuwa/limit/Decision"), (0, u "of"), (0, u "(JZIJ)Lcom/example/moratuwa/moratuwa/limit/Decision;"), (0, .class_ 49), (0, u "com/example/moratuwa/moratuwa/limit/Algorithm$Step"), (0, .methodref 33 51), (0, .nameAndType 5 52), (0, u "(JI)V"), (0, .methodref 48 54), (0, .nameAndType 5 55), (0, u "(Ljava/lang/Object;Lcom/example/moratuwa/moratuwa/limit/Decision;)V"), (28, u "expiresAtMicros"), (0, u "(Lcom/example/moratuwa/moratuwa/limit/FixedWindow$Count;)J"), (2, u "decide"), (0, u "(Lcom/example/moratuwa/moratuwa/limit/FixedWindow$Count;J)Lcom/example/moratuwa/moratuwa/limit/Algorithm$Step;"), (12, u "MICROS_PER_SECOND"), (0, u "J"), (1, u "(II)V")] 51

def k5c0 : Code := { maxStack := 5, maxLocals := 3, code := prog_20_method_1_code, exceptionTable := #[], attributes := #[] }
def k5m0 : Method := { name := "<init>", desc := "(II)V", sig := { parameters := [.int, .int], returnType := none }, accessFlags := 1, code := some k5c0 }
def k5c1 : Code := { maxStack := 8, maxLocals := 11, code := prog_20_method_2_code, exceptionTable := #[], attributes := #[] }
def k5m1 : Method := { name := "decide", desc := "(Lcom/example/moratuwa/moratuwa/limit/FixedWindow$Count;J)Lcom/example/moratuwa/moratuwa/limit/Algorithm$Step;", sig := { parameters := [(.object "com/example/moratuwa/moratuwa/limit/FixedWindow$Count"), .long], returnType := some (.object "com/example/moratuwa/moratuwa/limit/Algorithm$Step") }, accessFlags := 1, code := some k5c1 }
def k5c2 : Code := { maxStack := 6, maxLocals := 2, code := prog_20_method_3_code, exceptionTable := #[], attributes := #[] }
def k5m2 : Method := { name := "expiresAtMicros", desc := "(Lcom/example/moratuwa/moratuwa/limit/FixedWindow$Count;)J", sig := { parameters := [(.object "com/example/moratuwa/moratuwa/limit/FixedWindow$Count")], returnType := some .long }, accessFlags := 1, code := some k5c2 }
/-- com/example/moratuwa/moratuwa/limit/FixedWindow -/
def k5 : Class := { plain "com/example/moratuwa/moratuwa/limit/FixedWindow" (some 3) with
  accessFlags := 49
  interfaces := #[4]
  cf := some (fileOf pool5 16 #[.nestMembers #[33]] #[{ accessFlags := 1, nameIndex := 5, descriptorIndex := 105, attributes := #[] }, { accessFlags := 1, nameIndex := 88, descriptorIndex := 89, attributes := #[] }, { accessFlags := 1, nameIndex := 84, descriptorIndex := 85, attributes := #[] }] 49 2 #[10] #[{ accessFlags := 18, nameIndex := 19, descriptorIndex := 20, attributes := #[] }, { accessFlags := 18, nameIndex := 23, descriptorIndex := 20, attributes := #[] }, { accessFlags := 26, nameIndex := 102, descriptorIndex := 103, attributes := #[] }])
  fields := #[{ name := "limit", type := .int, accessFlags := 18, slot := 0, constantValue := 0 }, { name := "windowSeconds", type := .int, accessFlags := 18, slot := 1, constantValue := 0 }, { name := "MICROS_PER_SECOND", type := .long, accessFlags := 26, slot := 0, constantValue := 0 }]
  methods := #[k5m0, k5m1, k5m2]
  instanceTypes := #[.int, .int]
  staticTypes := #[.long]
  resolved := Array.replicate 157 none
  statics := none }

def pool6 : Array CpInfo := pool [(1, .class_ 2), (0, u "java/io/Serializable"), (0, .class_ 4), (0, u "java/lang/Object")] 2

/-- java/io/Serializable -/
def k6 : Class := { plain "java/io/Serializable" (some 0) with
  accessFlags := 1537
  interfaces := #[]
  cf := some (fileOf pool6 1 #[] #[] 1537 3 #[] #[])
  fields := #[]
  methods := #[]
  instanceTypes := #[]
  staticTypes := #[]
  resolved := Array.replicate 7 none
  statics := none }

def pool7 : Array CpInfo := pool [(1, .class_ 2), (0, u "java/lang/Comparable"), (0, .class_ 4), (0, u "java/lang/Object")] 7

/-- java/lang/Comparable -/
def k7 : Class := { plain "java/lang/Comparable" (some 0) with
  accessFlags := 1537
  interfaces := #[]
  cf := some (fileOf pool7 1 #[] #[] 1537 3 #[] #[])
  fields := #[]
  methods := #[]
  instanceTypes := #[]
  staticTypes := #[]
  resolved := Array.replicate 12 none
  statics := none }

def pool8 : Array CpInfo := pool [(2, .class_ 4), (1, u "java/lang/CharSequence"), (42, .class_ 48), (0, u "java/lang/CharSequence$1CodePointIterator"), (10, .class_ 60), (0, u "java/lang/CharSequence$1CharIterator"), (5, .class_ 67), (0, u "java/lang/Object")] 63

/-- java/lang/CharSequence -/
def k8 : Class := { plain "java/lang/CharSequence" (some 0) with
  accessFlags := 1537
  interfaces := #[]
  cf := some (fileOf pool8 2 #[.nestMembers #[47, 59]] #[] 1537 66 #[] #[])
  fields := #[]
  methods := #[]
  instanceTypes := #[]
  staticTypes := #[]
  resolved := Array.replicate 131 none
  statics := none }

def pool9 : Array CpInfo := pool [(1, .class_ 2), (0, u "java/lang/constant/Constable"), (0, .class_ 4), (0, u "java/lang/Object")] 6

/-- java/lang/constant/Constable -/
def k9 : Class := { plain "java/lang/constant/Constable" (some 0) with
  accessFlags := 1537
  interfaces := #[]
  cf := some (fileOf pool9 1 #[] #[] 1537 3 #[] #[])
  fields := #[]
  methods := #[]
  instanceTypes := #[]
  staticTypes := #[]
  resolved := Array.replicate 11 none
  statics := none }

def pool10 : Array CpInfo := pool [(1, .class_ 2), (0, u "java/lang/constant/ConstantDesc"), (0, .class_ 4), (0, u "java/lang/Object")] 32

/-- java/lang/constant/ConstantDesc -/
def k10 : Class := { plain "java/lang/constant/ConstantDesc" (some 0) with
  accessFlags := 1537
  interfaces := #[]
  cf := some (fileOf pool10 1 #[] #[] 1537 3 #[] #[])
  fields := #[]
  methods := #[]
  instanceTypes := #[]
  staticTypes := #[]
  resolved := Array.replicate 37 none
  statics := none }

def pool11 : Array CpInfo := pool [(2, .class_ 4), (1, u "java/lang/Object"), (0, u "<init>"), (0, u "()V"), (3, .class_ 12), (1, u "java/lang/String"), (0, u "value"), (0, u "[B"), (2, u "coder"), (0, u "B"), (2, u "hash"), (0, u "I"), (2, u "hashIsZero"), (0, u "Z"), (13, u "COMPACT_STRINGS"), (534, .class_ 576), (0, u "java/lang/CharSequence"), (22, u "CASE_INSENSITIVE_ORDER"), (0, u "Ljava/util/Comparator;"), (500, u "serialPersistentFields"), (0, u "[Ljava/io/ObjectStreamField;"), (0, .class_ 1104), (0, u "java/lang/String$CaseInsensitiveComparator"), (1, .class_ 1107), (0, u "java/io/Serializable"), (0, .class_ 1109), (0, u "java/lang/Comparable"), (0, .class_ 1111), (0, u "java/lang/constant/Constable"), (0, .class_ 1113), (0, u "java/lang/constant/ConstantDesc"), (2, u "serialVersionUID"), (0, u "J"), (3, u "REPL"), (0, u "C"), (2, u "LATIN1"), (1, u "UTF16")] 323

def k11m0 : Method := { name := "<init>", desc := "()V", sig := { parameters := [], returnType := none }, accessFlags := 1, code := none }
/-- java/lang/String -/
def k11 : Class := { plain "java/lang/String" (some 0) with
  accessFlags := 49
  interfaces := #[6, 7, 8, 9, 10]
  cf := some (fileOf pool11 10 #[.nestMembers #[1103]] #[{ accessFlags := 1, nameIndex := 5, descriptorIndex := 6, attributes := #[] }] 49 2 #[1106, 1108, 575, 1110, 1112] #[{ accessFlags := 18, nameIndex := 13, descriptorIndex := 14, attributes := #[] }, { accessFlags := 18, nameIndex := 17, descriptorIndex := 18, attributes := #[] }, { accessFlags := 2, nameIndex := 21, descriptorIndex := 22, attributes := #[] }, { accessFlags := 2, nameIndex := 25, descriptorIndex := 26, attributes := #[] }, { accessFlags := 26, nameIndex := 1116, descriptorIndex := 1117, attributes := #[] }, { accessFlags := 24, nameIndex := 40, descriptorIndex := 26, attributes := #[] }, { accessFlags := 26, nameIndex := 1101, descriptorIndex := 1102, attributes := #[] }, { accessFlags := 26, nameIndex := 1121, descriptorIndex := 1122, attributes := #[] }, { accessFlags := 25, nameIndex := 599, descriptorIndex := 600, attributes := #[] }, { accessFlags := 24, nameIndex := 1125, descriptorIndex := 18, attributes := #[] }, { accessFlags := 24, nameIndex := 1127, descriptorIndex := 18, attributes := #[] }])
  fields := #[{ name := "value", type := (.array .byte), accessFlags := 18, slot := 0, constantValue := 0 }, { name := "coder", type := .byte, accessFlags := 18, slot := 1, constantValue := 0 }, { name := "hash", type := .int, accessFlags := 2, slot := 2, constantValue := 0 }, { name := "hashIsZero", type := .boolean, accessFlags := 2, slot := 3, constantValue := 0 }, { name := "serialVersionUID", type := .long, accessFlags := 26, slot := 0, constantValue := 0 }, { name := "COMPACT_STRINGS", type := .boolean, accessFlags := 24, slot := 1, constantValue := 0 }, { name := "serialPersistentFields", type := (.array (.object "java/io/ObjectStreamField")), accessFlags := 26, slot := 2, constantValue := 0 }, { name := "REPL", type := .char, accessFlags := 26, slot := 3, constantValue := 0 }, { name := "CASE_INSENSITIVE_ORDER", type := (.object "java/util/Comparator"), accessFlags := 25, slot := 4, constantValue := 0 }, { name := "LATIN1", type := .byte, accessFlags := 24, slot := 5, constantValue := 0 }, { name := "UTF16", type := .byte, accessFlags := 24, slot := 6, constantValue := 0 }]
  methods := #[k11m0]
  instanceTypes := #[(.array .byte), .byte, .int, .boolean]
  staticTypes := #[.long, .boolean, (.array (.object "java/io/ObjectStreamField")), .char, (.object "java/util/Comparator"), .byte, .byte]
  resolved := Array.replicate 1451 none
  statics := none }

def pool12 : Array CpInfo := pool [(1, .methodref 2 3), (0, .class_ 4), (0, .nameAndType 5 6), (0, u "java/lang/Record"), (0, u "<init>"), (0, u "()V"), (0, .fieldref 8 9), (0, .class_ 10), (0, .nameAndType 11 12), (0, u "com/example/moratuwa/moratuwa/limit/Decision"), (0, u "timeMicros"), (0, u "J"), (0, .fieldref 8 14), (0, .nameAndType 15 16), (0, u "allowed"), (0, u "Z"), (0, .fieldref 8 18), (0, .nameAndType 19 20), (0, u "remaining"), (0, u "I"), (0, .fieldref 8 22), (0, .nameAndType 23 12), (0, u "resetSeconds"), (0, .fieldref 8 25), (0, .nameAndType 26 12), (0, u "retryAfterSeconds"), (0, .methodref 8 28), (0, .nameAndType 29 30), (0, u "seconds"), (0, u "(J)J"), (0, .methodref 8 32), (0, .nameAndType 5 33), (0, u "(JZIJJ)V"), (0, .long 1000000), (13, u "MICROS_PER_SECOND"), (4, u "of"), (0, u "(JZIJ)Lcom/example/moratuwa/moratuwa/limit/Decision;")] 30

def k12c0 : Code := { maxStack := 3, maxLocals := 9, code := prog_19_method_1_code, exceptionTable := #[], attributes := #[] }
def k12m0 : Method := { name := "<init>", desc := "(JZIJJ)V", sig := { parameters := [.long, .boolean, .int, .long, .long], returnType := none }, accessFlags := 1, code := some k12c0 }
def k12c1 : Code := { maxStack := 10, maxLocals := 8, code := prog_19_method_2_code, exceptionTable := #[], attributes := #[] }
def k12m1 : Method := { name := "of", desc := "(JZIJ)Lcom/example/moratuwa/moratuwa/limit/Decision;", sig := { parameters := [.long, .boolean, .int, .long], returnType := some (.object "com/example/moratuwa/moratuwa/limit/Decision") }, accessFlags := 9, code := some k12c1 }
def k12c2 : Code := { maxStack := 4, maxLocals := 2, code := prog_19_method_3_code, exceptionTable := #[], attributes := #[] }
def k12m2 : Method := { name := "seconds", desc := "(J)J", sig := { parameters := [.long], returnType := some .long }, accessFlags := 9, code := some k12c2 }
/-- com/example/moratuwa/moratuwa/limit/Decision -/
def k12 : Class := { plain "com/example/moratuwa/moratuwa/limit/Decision" (some 3) with
  accessFlags := 49
  interfaces := #[]
  cf := some (fileOf pool12 8 #[] #[{ accessFlags := 1, nameIndex := 5, descriptorIndex := 33, attributes := #[] }, { accessFlags := 9, nameIndex := 53, descriptorIndex := 54, attributes := #[] }, { accessFlags := 9, nameIndex := 29, descriptorIndex := 30, attributes := #[] }] 49 2 #[] #[{ accessFlags := 18, nameIndex := 11, descriptorIndex := 12, attributes := #[] }, { accessFlags := 18, nameIndex := 15, descriptorIndex := 16, attributes := #[] }, { accessFlags := 18, nameIndex := 19, descriptorIndex := 20, attributes := #[] }, { accessFlags := 18, nameIndex := 23, descriptorIndex := 12, attributes := #[] }, { accessFlags := 18, nameIndex := 26, descriptorIndex := 12, attributes := #[] }, { accessFlags := 26, nameIndex := 48, descriptorIndex := 12, attributes := #[] }])
  fields := #[{ name := "timeMicros", type := .long, accessFlags := 18, slot := 0, constantValue := 0 }, { name := "allowed", type := .boolean, accessFlags := 18, slot := 1, constantValue := 0 }, { name := "remaining", type := .int, accessFlags := 18, slot := 2, constantValue := 0 }, { name := "resetSeconds", type := .long, accessFlags := 18, slot := 3, constantValue := 0 }, { name := "retryAfterSeconds", type := .long, accessFlags := 18, slot := 4, constantValue := 0 }, { name := "MICROS_PER_SECOND", type := .long, accessFlags := 26, slot := 0, constantValue := 0 }]
  methods := #[k12m0, k12m1, k12m2]
  instanceTypes := #[.long, .boolean, .int, .long, .long]
  staticTypes := #[.long]
  resolved := Array.replicate 85 none
  statics := none }

def pool13 : Array CpInfo := pool [(1, .methodref 2 3), (0, .class_ 4), (0, .nameAndType 5 6), (0, u "java/lang/Record"), (0, u "<init>"), (0, u "()V"), (0, .fieldref 8 9), (0, .class_ 10), (0, .nameAndType 11 12), (0, u "com/example/moratuwa/moratuwa/limit/Algorithm$Step"), (0, u "state"), (0, u "Ljava/lang/Object;"), (0, .fieldref 8 14), (0, .nameAndType 15 16), (0, u "decision"), (0, u "Lcom/example/moratuwa/moratuwa/limit/Decision;"), (14, u "(Ljava/lang/Object;Lcom/example/moratuwa/moratuwa/limit/Decision;)V"), (7, u "()Ljava/lang/Object;"), (6, .class_ 47), (0, u "com/example/moratuwa/moratuwa/limit/Algorithm")] 20

def k13c0 : Code := { maxStack := 2, maxLocals := 3, code := prog_16_method_1_code, exceptionTable := #[], attributes := #[] }
def k13m0 : Method := { name := "<init>", desc := "(Ljava/lang/Object;Lcom/example/moratuwa/moratuwa/limit/Decision;)V", sig := { parameters := [(.object "java/lang/Object"), (.object "com/example/moratuwa/moratuwa/limit/Decision")], returnType := none }, accessFlags := 1, code := some k13c0 }
def k13c1 : Code := { maxStack := 1, maxLocals := 1, code := prog_16_method_5_code, exceptionTable := #[], attributes := #[] }
def k13m1 : Method := { name := "state", desc := "()Ljava/lang/Object;", sig := { parameters := [], returnType := some (.object "java/lang/Object") }, accessFlags := 1, code := some k13c1 }
/-- com/example/moratuwa/moratuwa/limit/Algorithm$Step -/
def k13 : Class := { plain "com/example/moratuwa/moratuwa/limit/Algorithm$Step" (some 3) with
  accessFlags := 49
  interfaces := #[]
  cf := some (fileOf pool13 8 #[.nestHost 46] #[{ accessFlags := 1, nameIndex := 5, descriptorIndex := 31, attributes := #[] }, { accessFlags := 1, nameIndex := 11, descriptorIndex := 39, attributes := #[] }] 49 2 #[] #[{ accessFlags := 18, nameIndex := 11, descriptorIndex := 12, attributes := #[] }, { accessFlags := 18, nameIndex := 15, descriptorIndex := 16, attributes := #[] }])
  fields := #[{ name := "state", type := (.object "java/lang/Object"), accessFlags := 18, slot := 0, constantValue := 0 }, { name := "decision", type := (.object "com/example/moratuwa/moratuwa/limit/Decision"), accessFlags := 18, slot := 1, constantValue := 0 }]
  methods := #[k13m0, k13m1]
  instanceTypes := #[(.object "java/lang/Object"), (.object "com/example/moratuwa/moratuwa/limit/Decision")]
  staticTypes := #[]
  resolved := Array.replicate 68 none
  statics := none }

def pool14 : Array CpInfo := pool [(1, .methodref 2 3), (0, .class_ 4), (0, .nameAndType 5 6), (0, u "java/lang/Record"), (0, u "<init>"), (0, u "()V"), (0, .fieldref 8 9), (0, .class_ 10), (0, .nameAndType 11 12), (0, u "com/example/moratuwa/moratuwa/limit/FixedWindow$Count"), (0, u "windowStartMicros"), (0, u "J"), (0, .fieldref 8 14), (0, .nameAndType 15 16), (0, u "allowed"), (0, u "I"), (12, u "(JI)V"), (6, u "()J"), (3, .class_ 41), (0, u "com/example/moratuwa/moratuwa/limit/FixedWindow")] 20

def k14c0 : Code := { maxStack := 3, maxLocals := 4, code := prog_21_method_1_code, exceptionTable := #[], attributes := #[] }
def k14m0 : Method := { name := "<init>", desc := "(JI)V", sig := { parameters := [.long, .int], returnType := none }, accessFlags := 1, code := some k14c0 }
def k14c1 : Code := { maxStack := 2, maxLocals := 1, code := prog_21_method_5_code, exceptionTable := #[], attributes := #[] }
def k14m1 : Method := { name := "windowStartMicros", desc := "()J", sig := { parameters := [], returnType := some .long }, accessFlags := 1, code := some k14c1 }
/-- com/example/moratuwa/moratuwa/limit/FixedWindow$Count -/
def k14 : Class := { plain "com/example/moratuwa/moratuwa/limit/FixedWindow$Count" (some 3) with
  accessFlags := 49
  interfaces := #[]
  cf := some (fileOf pool14 8 #[.nestHost 40] #[{ accessFlags := 1, nameIndex := 5, descriptorIndex := 29, attributes := #[] }, { accessFlags := 1, nameIndex := 11, descriptorIndex := 36, attributes := #[] }] 49 2 #[] #[{ accessFlags := 18, nameIndex := 11, descriptorIndex := 12, attributes := #[] }, { accessFlags := 18, nameIndex := 15, descriptorIndex := 16, attributes := #[] }])
  fields := #[{ name := "windowStartMicros", type := .long, accessFlags := 18, slot := 0, constantValue := 0 }, { name := "allowed", type := .int, accessFlags := 18, slot := 1, constantValue := 0 }]
  methods := #[k14m0, k14m1]
  instanceTypes := #[.long, .int]
  staticTypes := #[]
  resolved := Array.replicate 62 none
  statics := none }

def pool15 : Array CpInfo := pool [(1, u "java/lang/Cloneable"), (0, .class_ 1), (0, u "java/lang/Object"), (0, .class_ 3)] 3

/-- java/lang/Cloneable -/
def k15 : Class := { plain "java/lang/Cloneable" (some 0) with
  accessFlags := 1537
  interfaces := #[]
  cf := some (fileOf pool15 2 #[] #[] 1537 4 #[] #[])
  fields := #[]
  methods := #[]
  instanceTypes := #[]
  staticTypes := #[]
  resolved := Array.replicate 8 none
  statics := none }

/-- the primitive byte -/
def k16 : Class := { plain "byte" none with kind := .primitive 'B', accessFlags := 0x411 }
/-- [B -/
def k17 : Class := { plain "[B" (some 0) with kind := .array 16 .byte, interfaces := #[15, 6], accessFlags := 1041 }

/-- the primitive int -/
def k18 : Class := { plain "int" none with kind := .primitive 'I', accessFlags := 0x411 }
/-- [I -/
def k19 : Class := { plain "[I" (some 0) with kind := .array 18 .int, interfaces := #[15, 6], accessFlags := 1041 }

def heap : Heap := #[]
def classes : Array Class := #[k0, k1, k2, k3, k4, k5, k6, k7, k8, k9, k10, k11, k12, k13, k14, k15, k16, k17, k18, k19]
def interned : List (Array UInt16 × Addr) := []
def slotsUsed : Nat := 0
def theMethod : MethodId := ⟨1, 1⟩
def args0 : Array Value := #[.int 5, .int 300, .long 7]
def aboutOver (below : List Frame) : State where
  vm := { classes := classes, interned := interned.toArray }
  heap := heap
  slotsUsed := slotsUsed
  threads := #[{ frames := .invoking theMethod args0 :: below }]
def below0 : List Frame := [.native { method := ⟨0, 0⟩, args := #[] }]
def about1 : State := aboutOver below0
def p0 : Program := .bare "" "" ""
def e0 : Env := launch0.env 0 0 0
theorem w_frames : about1.frames = Frame.invoking theMethod args0 :: below0 := rfl
set_option maxRecDepth 65536 in
theorem w_args : argsFit about1.vm theMethod args0 = true := by decide +kernel
set_option maxRecDepth 65536 in
theorem w_heap : heapFits about1 = true := by decide +kernel
set_option maxRecDepth 65536 in
theorem w_runnable : about1.curStatus? = some .runnable := by decide +kernel
set_option maxRecDepth 65536 in
theorem w_alone : about1.alone = true := by decide +kernel
set_option maxRecDepth 65536 in
theorem w_named : about1.methodNamed? x = some theMethod := by decide +kernel
set_option maxRecDepth 65536 in
theorem w_hears : about1.hears theMethod below0 = true := by decide +kernel
set_option maxRecDepth 65536 in
theorem w_ripe : about1.ripe theMethod args0 below0 = true := by decide +kernel
theorem w_running : about1.status = .running := rfl
set_option maxRecDepth 65536 in
theorem w_room : about1.hasRoom e0.platform room_1 = true :=
  launch0.hasRoom_least _ room_1 (by decide +kernel) (by decide +kernel) (by decide +kernel) (by decide +kernel) (by decide +kernel) (by decide +kernel)
theorem allAtoms_all (ts : List Jvm.Cond) (a : Array Jvm.Value) (st : Jvm.State) : (allAtoms ts).before a st = ts.all (fun c => c.before a st) := by
  induction ts with
  | nil => rfl
  | cons c t ih =>
    show (Jvm.Cond.and c (allAtoms t)).before a st = _
    rw [Jvm.Cond.before_and, ih, List.all_cons]
def words1 : List Jvm.Cond := Jvm.Cond.code x code maxLocals ret :: tables_1
/-- a 'code' word, met by the world's own term for the bytes: nothing is compared byte by byte -/
theorem code_word {y : MethodName} {bytes : ByteArray} {mx : Nat} {rt : Option FieldType} {a : Array Value} {s : State} {m : MethodId} {meth : Method} {c : Code} (h1 : s.methodNamed? y = some m) (h2 : s.vm.method? m = some meth) (h3 : meth.code = some c) (h4 : c.code = bytes)
    (h5 : (c.maxLocals == mx && c.exceptionTable.isEmpty && decide (c.maxStack ≤ mostOperands) && decide (meth.sig.returnType = rt) && !meth.locks && decide (parseMethodDescriptor y.desc = some meth.sig)) = true) : (Jvm.Cond.code y bytes mx rt).before a s = true := by
  simp only [Bool.and_eq_true, beq_iff_eq, Bool.not_eq_true', decide_eq_true_eq] at h5
  obtain ⟨⟨⟨⟨⟨g1, g2⟩, g3⟩, g4⟩, g5⟩, g6⟩ := h5
  simp [Cond.before, Cond.holds, Cond.value, h1, h2, h3, h4, g1, g2, g3, g4, g5, g6]
def isCode : Jvm.Cond → Bool
  | .code _ _ _ _ => true
  | _ => false
theorem all_split {L : List Jvm.Cond} {P : Jvm.Cond → Bool} (h1 : L.all (fun c => isCode c || P c) = true) (h2 : ∀ c ∈ L.filter isCode, P c = true) : L.all P = true := by
  refine List.all_eq_true.mpr fun c hc => ?_
  have h := List.all_eq_true.mp h1 c hc
  rcases Bool.eq_false_or_eq_true (isCode c) with hi | hi
  · exact h2 c (List.mem_filter.mpr ⟨hc, hi⟩)
  · simpa [hi] using h
set_option maxRecDepth 65536 in
theorem w_c0 : (Jvm.Cond.code x code maxLocals ret).before args0 about1 = true := code_word (m := ⟨1, 1⟩) (meth := k1m1) (c := k1c1) (by decide +kernel) rfl rfl rfl (by decide +kernel)
set_option maxRecDepth 65536 in
theorem w_c1 : (Jvm.Cond.code ({ cls := "java/lang/Math", name := "max", desc := "(II)I" } : Jvm.MethodName) jdk_29_method_65_code (2 : Nat) (Option.some Jvm.ClassFile.FieldType.int)).before args0 about1 = true := code_word (m := ⟨2, 2⟩) (meth := k2m2) (c := k2c2) (by decide +kernel) rfl rfl rfl (by decide +kernel)
set_option maxRecDepth 65536 in
theorem w_c2 : (Jvm.Cond.code ({ cls := "com/example/moratuwa/moratuwa/limit/FixedWindow", name := "<init>", desc := "(II)V" } : Jvm.MethodName) prog_20_method_1_code (3 : Nat) (Option.none : Option Jvm.ClassFile.FieldType)).before args0 about1 = true := code_word (m := ⟨5, 0⟩) (meth := k5m0) (c := k5c0) (by decide +kernel) rfl rfl rfl (by decide +kernel)
set_option maxRecDepth 65536 in
theorem w_c3 : (Jvm.Cond.code ({ cls := "java/lang/Record", name := "<init>", desc := "()V" } : Jvm.MethodName) jdk_30_method_1_code (1 : Nat) (Option.none : Option Jvm.ClassFile.FieldType)).before args0 about1 = true := code_word (m := ⟨3, 0⟩) (meth := k3m0) (c := k3c0) (by decide +kernel) rfl rfl rfl (by decide +kernel)
set_option maxRecDepth 65536 in
theorem w_c4 : (Jvm.Cond.code ({ cls := "java/lang/Object", name := "<init>", desc := "()V" } : Jvm.MethodName) object_method_1_code (1 : Nat) (Option.none : Option Jvm.ClassFile.FieldType)).before args0 about1 = true := code_word (m := ⟨0, 0⟩) (meth := k0m0) (c := k0c0) (by decide +kernel) rfl rfl rfl (by decide +kernel)
set_option maxRecDepth 65536 in
theorem w_c5 : (Jvm.Cond.code ({ cls := "com/example/moratuwa/moratuwa/limit/Algorithm", name := "requireAtLeastOne", desc := "(Ljava/lang/String;[I)V" } : Jvm.MethodName) prog_15_method_4_code (6 : Nat) (Option.none : Option Jvm.ClassFile.FieldType)).before args0 about1 = true := code_word (m := ⟨4, 0⟩) (meth := k4m0) (c := k4c0) (by decide +kernel) rfl rfl rfl (by decide +kernel)
set_option maxRecDepth 65536 in
theorem w_c6 : (Jvm.Cond.code ({ cls := "com/example/moratuwa/moratuwa/limit/FixedWindow", name := "decide", desc := "(Lcom/example/moratuwa/moratuwa/limit/FixedWindow$Count;J)Lcom/example/moratuwa/moratuwa/limit/Algorithm$Step;" } : Jvm.MethodName) prog_20_method_2_code (11 : Nat) (Option.some (Jvm.ClassFile.FieldType.object "com/example/moratuwa/moratuwa/limit/Algorithm$Step"))).before args0 about1 = true := code_word (m := ⟨5, 1⟩) (meth := k5m1) (c := k5c1) (by decide +kernel) rfl rfl rfl (by decide +kernel)
set_option maxRecDepth 65536 in
theorem w_c7 : (Jvm.Cond.code ({ cls := "java/lang/Math", name := "floorDiv", desc := "(JJ)J" } : Jvm.MethodName) jdk_29_method_49_code (6 : Nat) (Option.some Jvm.ClassFile.FieldType.long)).before args0 about1 = true := code_word (m := ⟨2, 1⟩) (meth := k2m1) (c := k2c1) (by decide +kernel) rfl rfl rfl (by decide +kernel)
set_option maxRecDepth 65536 in
theorem w_c8 : (Jvm.Cond.code ({ cls := "com/example/moratuwa/moratuwa/limit/Decision", name := "of", desc := "(JZIJ)Lcom/example/moratuwa/moratuwa/limit/Decision;" } : Jvm.MethodName) prog_19_method_2_code (8 : Nat) (Option.some (Jvm.ClassFile.FieldType.object "com/example/moratuwa/moratuwa/limit/Decision"))).before args0 about1 = true := code_word (m := ⟨12, 1⟩) (meth := k12m1) (c := k12c1) (by decide +kernel) rfl rfl rfl (by decide +kernel)
set_option maxRecDepth 65536 in
theorem w_c9 : (Jvm.Cond.code ({ cls := "com/example/moratuwa/moratuwa/limit/Decision", name := "seconds", desc := "(J)J" } : Jvm.MethodName) prog_19_method_3_code (2 : Nat) (Option.some Jvm.ClassFile.FieldType.long)).before args0 about1 = true := code_word (m := ⟨12, 2⟩) (meth := k12m2) (c := k12c2) (by decide +kernel) rfl rfl rfl (by decide +kernel)
set_option maxRecDepth 65536 in
theorem w_c10 : (Jvm.Cond.code ({ cls := "com/example/moratuwa/moratuwa/limit/Decision", name := "<init>", desc := "(JZIJJ)V" } : Jvm.MethodName) prog_19_method_1_code (9 : Nat) (Option.none : Option Jvm.ClassFile.FieldType)).before args0 about1 = true := code_word (m := ⟨12, 0⟩) (meth := k12m0) (c := k12c0) (by decide +kernel) rfl rfl rfl (by decide +kernel)
set_option maxRecDepth 65536 in
theorem w_c11 : (Jvm.Cond.code ({ cls := "com/example/moratuwa/moratuwa/limit/FixedWindow$Count", name := "<init>", desc := "(JI)V" } : Jvm.MethodName) prog_21_method_1_code (4 : Nat) (Option.none : Option Jvm.ClassFile.FieldType)).before args0 about1 = true := code_word (m := ⟨14, 0⟩) (meth := k14m0) (c := k14c0) (by decide +kernel) rfl rfl rfl (by decide +kernel)
set_option maxRecDepth 65536 in
theorem w_c12 : (Jvm.Cond.code ({ cls := "com/example/moratuwa/moratuwa/limit/Algorithm$Step", name := "<init>", desc := "(Ljava/lang/Object;Lcom/example/moratuwa/moratuwa/limit/Decision;)V" } : Jvm.MethodName) prog_16_method_1_code (3 : Nat) (Option.none : Option Jvm.ClassFile.FieldType)).before args0 about1 = true := code_word (m := ⟨13, 0⟩) (meth := k13m0) (c := k13c0) (by decide +kernel) rfl rfl rfl (by decide +kernel)
set_option maxRecDepth 65536 in
theorem w_c13 : (Jvm.Cond.code ({ cls := "com/example/moratuwa/moratuwa/limit/Algorithm$Step", name := "state", desc := "()Ljava/lang/Object;" } : Jvm.MethodName) prog_16_method_5_code (1 : Nat) (Option.some (Jvm.ClassFile.FieldType.object "java/lang/Object"))).before args0 about1 = true := code_word (m := ⟨13, 1⟩) (meth := k13m1) (c := k13c1) (by decide +kernel) rfl rfl rfl (by decide +kernel)
set_option maxRecDepth 65536 in
theorem w_c14 : (Jvm.Cond.code ({ cls := "com/example/moratuwa/moratuwa/limit/FixedWindow", name := "expiresAtMicros", desc := "(Lcom/example/moratuwa/moratuwa/limit/FixedWindow$Count;)J" } : Jvm.MethodName) prog_20_method_3_code (2 : Nat) (Option.some Jvm.ClassFile.FieldType.long)).before args0 about1 = true := code_word (m := ⟨5, 2⟩) (meth := k5m2) (c := k5c2) (by decide +kernel) rfl rfl rfl (by decide +kernel)
set_option maxRecDepth 65536 in
theorem w_c15 : (Jvm.Cond.code ({ cls := "com/example/moratuwa/moratuwa/limit/FixedWindow$Count", name := "windowStartMicros", desc := "()J" } : Jvm.MethodName) prog_21_method_5_code (1 : Nat) (Option.some Jvm.ClassFile.FieldType.long)).before args0 about1 = true := code_word (m := ⟨14, 1⟩) (meth := k14m1) (c := k14c1) (by decide +kernel) rfl rfl rfl (by decide +kernel)
def codes1 : List Jvm.Cond := [Jvm.Cond.code x code maxLocals ret, Jvm.Cond.code ({ cls := "java/lang/Math", name := "max", desc := "(II)I" } : Jvm.MethodName) jdk_29_method_65_code (2 : Nat) (Option.some Jvm.ClassFile.FieldType.int), Jvm.Cond.code ({ cls := "com/example/moratuwa/moratuwa/limit/FixedWindow", name := "<init>", desc := "(II)V" } : Jvm.MethodName) prog_20_method_1_code (3 : Nat) (Option.none : Option Jvm.ClassFile.FieldType), Jvm.Cond.code ({ cls := "java/lang/Record", name := "<init>", desc := "()V" } : Jvm.MethodName) jdk_30_method_1_code (1 : Nat) (Option.none : Option Jvm.ClassFile.FieldType), Jvm.Cond.code ({ cls := "java/lang/Object", name := "<init>", desc := "()V" } : Jvm.MethodName) object_method_1_code (1 : Nat) (Option.none : Option Jvm.ClassFile.FieldType), Jvm.Cond.code ({ cls := "com/example/moratuwa/moratuwa/limit/Algorithm", name := "requireAtLeastOne", desc := "(Ljava/lang/String;[I)V" } : Jvm.MethodName) prog_15_method_4_code (6 : Nat) (Option.none : Option Jvm.ClassFile.FieldType), Jvm.Cond.code ({ cls := "com/example/moratuwa/moratuwa/limit/FixedWindow", name := "decide", desc := "(Lcom/example/moratuwa/moratuwa/limit/FixedWindow$Count;J)Lcom/example/moratuwa/moratuwa/limit/Algorithm$Step;" } : Jvm.MethodName) prog_20_method_2_code (11 : Nat) (Option.some (Jvm.ClassFile.FieldType.object "com/example/moratuwa/moratuwa/limit/Algorithm$Step")), Jvm.Cond.code ({ cls := "java/lang/Math", name := "floorDiv", desc := "(JJ)J" } : Jvm.MethodName) jdk_29_method_49_code (6 : Nat) (Option.some Jvm.ClassFile.FieldType.long), Jvm.Cond.code ({ cls := "com/example/moratuwa/moratuwa/limit/Decision", name := "of", desc := "(JZIJ)Lcom/example/moratuwa/moratuwa/limit/Decision;" } : Jvm.MethodName) prog_19_method_2_code (8 : Nat) (Option.some (Jvm.ClassFile.FieldType.object "com/example/moratuwa/moratuwa/limit/Decision")), Jvm.Cond.code ({ cls := "com/example/moratuwa/moratuwa/limit/Decision", name := "seconds", desc := "(J)J" } : Jvm.MethodName) prog_19_method_3_code (2 : Nat) (Option.some Jvm.ClassFile.FieldType.long), Jvm.Cond.code ({ cls := "com/example/moratuwa/moratuwa/limit/Decision", name := "<init>", desc := "(JZIJJ)V" } : Jvm.MethodName) prog_19_method_1_code (9 : Nat) (Option.none : Option Jvm.ClassFile.FieldType), Jvm.Cond.code ({ cls := "com/example/moratuwa/moratuwa/limit/FixedWindow$Count", name := "<init>", desc := "(JI)V" } : Jvm.MethodName) prog_21_method_1_code (4 : Nat) (Option.none : Option Jvm.ClassFile.FieldType), Jvm.Cond.code ({ cls := "com/example/moratuwa/moratuwa/limit/Algorithm$Step", name := "<init>", desc := "(Ljava/lang/Object;Lcom/example/moratuwa/moratuwa/limit/Decision;)V" } : Jvm.MethodName) prog_16_method_1_code (3 : Nat) (Option.none : Option Jvm.ClassFile.FieldType), Jvm.Cond.code ({ cls := "com/example/moratuwa/moratuwa/limit/Algorithm$Step", name := "state", desc := "()Ljava/lang/Object;" } : Jvm.MethodName) prog_16_method_5_code (1 : Nat) (Option.some (Jvm.ClassFile.FieldType.object "java/lang/Object")), Jvm.Cond.code ({ cls := "com/example/moratuwa/moratuwa/limit/FixedWindow", name := "expiresAtMicros", desc := "(Lcom/example/moratuwa/moratuwa/limit/FixedWindow$Count;)J" } : Jvm.MethodName) prog_20_method_3_code (2 : Nat) (Option.some Jvm.ClassFile.FieldType.long), Jvm.Cond.code ({ cls := "com/example/moratuwa/moratuwa/limit/FixedWindow$Count", name := "windowStartMicros", desc := "()J" } : Jvm.MethodName) prog_21_method_5_code (1 : Nat) (Option.some Jvm.ClassFile.FieldType.long)]
set_option maxRecDepth 65536 in
theorem codes_eq : words1.filter isCode = codes1 := rfl
theorem w_codes : ∀ c ∈ words1.filter isCode, c.before args0 about1 = true := by
  rw [codes_eq]
  intro c hc
  simp only [codes1, List.mem_cons, List.not_mem_nil, or_false] at hc
  rcases hc with rfl | rfl | rfl | rfl | rfl | rfl | rfl | rfl | rfl | rfl | rfl | rfl | rfl | rfl | rfl | rfl
  · exact w_c0
  · exact w_c1
  · exact w_c2
  · exact w_c3
  · exact w_c4
  · exact w_c5
  · exact w_c6
  · exact w_c7
  · exact w_c8
  · exact w_c9
  · exact w_c10
  · exact w_c11
  · exact w_c12
  · exact w_c13
  · exact w_c14
  · exact w_c15
set_option maxRecDepth 65536 in
theorem w_t1 : (words1.take 24).all (fun c => isCode c || c.before args0 about1) = true := by decide +kernel
set_option maxRecDepth 65536 in
theorem w_t2 : ((words1.drop 24).take 24).all (fun c => isCode c || c.before args0 about1) = true := by decide +kernel
set_option maxRecDepth 65536 in
theorem w_t3 : (((words1.drop 24).drop 24).take 24).all (fun c => isCode c || c.before args0 about1) = true := by decide +kernel
set_option maxRecDepth 65536 in
theorem w_t4 : ((((words1.drop 24).drop 24).drop 24).take 24).all (fun c => isCode c || c.before args0 about1) = true := by decide +kernel
set_option maxRecDepth 65536 in
theorem w_t5 : ((((words1.drop 24).drop 24).drop 24).drop 24).all (fun c => isCode c || c.before args0 about1) = true := by decide +kernel
theorem w_tables : (allAtoms (Jvm.Cond.code x code maxLocals ret :: tables_1)).before args0 about1 = true := by
  rw [allAtoms_all]
  show words1.all (fun c => c.before args0 about1) = true
  refine all_split ?_ w_codes
  rw [← List.take_append_drop 24 words1, List.all_append, w_t1, ← List.take_append_drop 24 (words1.drop 24), List.all_append, w_t2, ← List.take_append_drop 24 ((words1.drop 24).drop 24), List.all_append, w_t3, ← List.take_append_drop 24 (((words1.drop 24).drop 24).drop 24), List.all_append, w_t4, w_t5]
  rfl
set_option maxRecDepth 65536 in
theorem w_case : (Jvm.Cond.and given_1 narrow_1).before args0 about1 = true := by decide +kernel
theorem w_applies : (headSpec (Jvm.Cond.code x code maxLocals ret :: tables_1) room_1).applies x e0.platform about1 = true :=
  (Spec.applies_iff w_frames).mpr ⟨w_running, w_runnable, w_alone, w_named, w_hears, w_ripe, w_room, w_tables⟩
theorem atStart : AtStart classFile x code maxLocals ret World_1 tables_1 room_1 Calls_1 rest_1 Pre_1 launch0 p0 e0 about1 theMethod args0 below0 :=
  ⟨lists_1, trivial, launch0.admits_env _ _ _, launch0.least_env, fairChoices_fair.cas, fairChoices_fair.clock, w_frames, w_args, w_heap, w_applies, trivial, trivial, w_case⟩
end start1
theorem witness_1 : WitnessClaimed_1 := ⟨start1.p0, start1.e0, start1.about1, start1.theMethod, start1.args0, start1.below0, start1.atStart⟩
end Jvm.Pilot.@@N@@
