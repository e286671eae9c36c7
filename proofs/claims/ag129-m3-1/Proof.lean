import JvmDerived
import JvmDerived.Pilot.@@N@@Statement
import JvmDerived.Pilot.@@N@@Code
set_option linter.unusedVariables false
set_option linter.unusedSimpArgs false
namespace Jvm.Pilot.@@N@@
open Jvm Jvm.ClassFile Sem Op Lib Jvm.Free Jvm.Stand Jvm.LawKit Jvm.RoadKit Bundle Jvm.Pilot.@@N@@.Jvm.D
/-! OWN KIT: the walk's steps in one form: 'own_A' where the run stands, 'own_E' that it ends as G says. -/
def own_E (p : Program) (e : Env) (below : List Frame) (G : Outcome → State → Prop) (A : State) : Prop := ∃ s₂ o, Steps p.tables e below A s₂ ∧ s₂.status = .running ∧ Ended s₂ below o ∧ G o s₂
def own_A (l : Launch) (Z : State) (own : String) (cb : ByteArray) (ml n0 : Nat) (p : Program) (e : Env) (R : Room) (s : State) (m : MethodId) (args : Array Value) (below : List Frame) (meth : Method) (c : Code) (T : State) (h : Heap) (locs : List Loc) (cells slots : Nat) : Prop :=
  Stand p l e R s m args below meth c T locs cells slots ∧ p.tables.exec = Jvm.exec ∧ Z.Warmed39 s.vm ∧ c.code = cb ∧ c.maxLocals = ml ∧ s.vm.findClass own = some m.cls ∧ T.heap = h ∧ Fr n0 locs ∧ n0 ≤ h.size ∧ meth.locks = false
def own_G (R : Room) (s : State) (n0 : Nat) (Q : Option Value → Heap → Prop) (o : Outcome) (U : State) : Prop := ∃ v L, o = .returned v ∧ (Q v U.heap ∧ Fr n0 L ∧ n0 ≤ U.heap.size) ∧ FrameEnd s o U L R.cells R.slots
def own_Con (l : Launch) (Z : State) (y : MethodName) (cb : ByteArray) (ml : Nat) (ret : Option FieldType) (rm : Room) (as' : Array Value) (h0 : Heap) (n0 : Nat) (Q : Option Value → Heap → Prop) : Prop :=
  ∀ ws, MetFree l y (head1 (Jvm.Cond.code y cb ml ret :: ws) rm) (fun a U => a = as' ∧ Z.Warmed39 U.vm ∧ U.heap = h0) (fun _ _ _ _ _ => True) (fun _ U o U' => ∃ v L, o = .returned v ∧ (Q v U'.heap ∧ Fr n0 L ∧ n0 ≤ U'.heap.size) ∧ FrameEnd U o U' L rm.cells rm.slots)
theorem own_b255 (x : Int32) : x &&& 255 = x.toInt8.toInt32 &&& 255 := by
  apply Int32.toBitVec_inj.mp
  rw [Int32.toBitVec_and, Int32.toBitVec_and]
  show x.toBitVec &&& (BitVec.ofNat 32 255) = (x.toBitVec.signExtend 8).signExtend 32 &&& (BitVec.ofNat 32 255)
  apply BitVec.eq_of_getLsbD_eq
  intro i hi
  rw [BitVec.getLsbD_and, BitVec.getLsbD_and, BitVec.getLsbD_signExtend, BitVec.getLsbD_signExtend]
  by_cases h : i < 8
  · simp [h, hi]
  · have : ((BitVec.ofNat 32 255)).getLsbD i = false := by
      have h2 : 8 ≤ i := by omega
      have : ((BitVec.ofNat 32 255)).getLsbD i = Nat.testBit 255 i := by simp [BitVec.getLsbD]
      rw [this]; exact Nat.testBit_lt_two_pow (Nat.lt_of_lt_of_le (by decide : 255 < 2^8) (Nat.pow_le_pow_right (by decide) h2))
    simp [this]
theorem own_lremE (x y : Int64) : x - (x / y) * y = x % y := by
  apply Int64.toInt_inj.mp
  have h1 := Int64.le_toInt (x % y)
  have h2 := Int64.toInt_lt (x % y)
  rw [Int64.toInt_sub, Int64.toInt_mul, Int64.toInt_div, Int.bmod_mul_bmod, Int.sub_bmod_bmod, Int.mul_comm (x.toInt.tdiv y.toInt), ← Int.tmod_def, ← Int64.toInt_mod]
  exact Int.bmod_eq_of_le_mul_two (by omega) (by omega)
theorem own_addc (x a b c : Int32) (h : a + b = c) : (x + a) + b = x + c := by rw [Int32.add_assoc, h]
theorem own_nb (t : Int32) : nar .byte (t.toInt8.toInt32) = t.toInt8.toInt32 := by
  show (t.toInt8.toInt32).toInt8.toInt32 = t.toInt8.toInt32
  simp
section OwnKit
variable {l : Launch} {Z : State} {a0 : Array Value} {own : String} {cb : ByteArray} {ml n0 : Nat} {p : Program} {e : Env} {R : Room} {s : State} {m : MethodId} {args : Array Value} {below : List Frame} {meth : Method} {c : Code} {T : State} {h h' : Heap} {locs : List Loc} {cells slots : Nat} {G : Outcome → State → Prop} {pc pc' : Nat} {Ls Ls' : Array Slot} {S : List Value}
theorem own_go {A B : State} (h : ∀ t, Steps p.tables e below B t → Steps p.tables e below A t) (k : own_E p e below G B) : own_E p e below G A := by
  obtain ⟨s₂, o, h1, r⟩ := k; exact ⟨s₂, o, h _ h1, r⟩
theorem own_enter {y : MethodName} {ret : Option FieldType} {as' : Array Value} {h0 : Heap} {Q : Option Value → Heap → Prop} (hpl : plainFor y = true) (hsz : n0 ≤ h0.size) (hef : ∀ m, entryFrame m as' ml = mkF m 0 Ls [])
    (k : ∀ p e s m below meth c T, own_A l Z y.cls cb ml n0 p e R s m as' below meth c T h0 [] 0 0 → meth.sig.returnType = ret → meth.name = y.name → own_E p e below (own_G R s n0 Q) (T.setTop (mkF m 0 Ls []))) : own_Con l Z y cb ml ret R as' h0 n0 Q := by
  intro ws
  refine MetFree.of_bodySF hpl hisR ?_
  intro p e s m args below meth c s₁ Bd hml0 hP hK
  obtain ⟨rfl, hZ, hh⟩ := hP
  have e0 : s₁.heap = h0 := by rw [← hh, Bd.state]; rfl
  have K := k p e s m below meth c s₁ ⟨Stand.of_body Bd, Bd.exec, hZ, Bd.bytes, hml0, findClass_of_methodNamed Bd.named, e0, Fr.nil n0, hsz, Bd.notSynchronized⟩ Bd.returns (name_of_methodNamed Bd.named Bd.method).1
  obtain ⟨s₂, o, h1, h2, h3, h4⟩ := K
  exact ⟨s₂, o, castTop (hef m) h1, h2, h3, h4⟩
theorem own_iret (X : own_A l Z own cb ml n0 p e R s m args below meth c T h locs cells slots) {t : FieldType} {z w : Int32} {Q : Option Value → Heap → Prop} (hr : meth.sig.returnType = some t) (ht : t = .int ∨ t = .boolean ∨ t = .byte ∨ t = .char ∨ t = .short) (hd : decode cb pc = .ok (.ireturn, 1)) (hz : nar t z = w) (hc : cells ≤ R.cells) (hs : slots ≤ R.slots) (hQ : Q (some (.int w)) h) :
    own_E p e below (own_G R s n0 Q) (T.setTop (mkF m pc Ls (.int z :: S))) := by
  obtain ⟨X, hx, hZ, hby, hml, hown, rfl, N, hsz, hlk⟩ := X
  subst hz
  obtain ⟨fs, hl, hrun, hended, hW, hsame⟩ := X.leave (v := some (.int (nar t z))) (fun q => by rw [hr] at q; cases q) hlk
  refine ⟨_, _, ?_, hrun, hended, _, locs, rfl, ⟨hQ, N, hsz⟩, ⟨_, rfl⟩, hW, hsame.mono hc hs⟩
  rcases ht with rfl | ht
  · exact retOut X hx hr rfl (Or.inl ⟨rfl, Or.inl rfl, z, rfl⟩) (hb hby hd) hl
  · exact retN X hx hr ht (hb hby hd) hl
theorem own_lret (X : own_A l Z own cb ml n0 p e R s m args below meth c T h locs cells slots) {z : Int64} {Q : Option Value → Heap → Prop} (hr : meth.sig.returnType = some .long) (hd : decode cb pc = .ok (.lreturn, 1)) (hc : cells ≤ R.cells) (hs : slots ≤ R.slots) (hQ : Q (some (.long z)) h) :
    own_E p e below (own_G R s n0 Q) (T.setTop (mkF m pc Ls (.long z :: S))) := by
  obtain ⟨X, hx, hZ, hby, hml, hown, rfl, N, hsz, hlk⟩ := X
  obtain ⟨fs, hl, hrun, hended, hW, hsame⟩ := X.leave (v := some (.long z)) (fun q => by rw [hr] at q; cases q) hlk
  exact ⟨_, _, retOut X hx hr rfl (Or.inr (Or.inl ⟨rfl, rfl, z, rfl⟩)) (hb hby hd) hl, hrun, hended, _, locs, rfl, ⟨hQ, N, hsz⟩, ⟨_, rfl⟩, hW, hsame.mono hc hs⟩
theorem own_aret (X : own_A l Z own cb ml n0 p e R s m args below meth c T h locs cells slots) {t : FieldType} {v : Value} {Q : Option Value → Heap → Prop} (hr : meth.sig.returnType = some t) (ht : t.isReference = true) (hv : v.isRef = true) (hn : narrow t v = v) (hd : decode cb pc = .ok (.areturn, 1)) (hc : cells ≤ R.cells) (hs : slots ≤ R.slots) (hQ : Q (some v) h) :
    own_E p e below (own_G R s n0 Q) (T.setTop (mkF m pc Ls (v :: S))) := by
  obtain ⟨X, hx, hZ, hby, hml, hown, rfl, N, hsz, hlk⟩ := X
  obtain ⟨fs, hl, hrun, hended, hW, hsame⟩ := X.leave (v := some v) (fun q => by rw [hr] at q; cases q) hlk
  exact ⟨_, _, retOut X hx hr hn (Or.inr (Or.inr (Or.inr (Or.inr ⟨rfl, ht, hv⟩)))) (hb hby hd) hl, hrun, hended, _, locs, rfl, ⟨hQ, N, hsz⟩, ⟨_, rfl⟩, hW, hsame.mono hc hs⟩
theorem own_vret (X : own_A l Z own cb ml n0 p e R s m args below meth c T h locs cells slots) {Q : Option Value → Heap → Prop} (hr : meth.sig.returnType = none) (hd : decode cb pc = .ok (.return_, 1)) (hc : cells ≤ R.cells) (hs : slots ≤ R.slots) (hQ : Q none h) :
    own_E p e below (own_G R s n0 Q) (T.setTop (mkF m pc Ls [])) := by
  obtain ⟨X, hx, hZ, hby, hml, hown, rfl, N, hsz, hlk⟩ := X
  obtain ⟨fs, hl, hrun, hended, hW, hsame⟩ := X.leave (v := none) (fun _ => rfl) hlk
  exact ⟨_, _, X.returnOut hx hr (hb hby hd) hl, hrun, hended, _, locs, rfl, ⟨hQ, N, hsz⟩, ⟨_, rfl⟩, hW, hsame.mono hc hs⟩
theorem own_iloadN (X : own_A l Z own cb ml n0 p e R s m args below meth c T h locs cells slots) {i : Fin 4} {v : Int32} (hd : decode cb pc = .ok (.iload_n i, 1)) (hp : pc + 1 = pc') (hl : Ls[i.val]? = some (.val (.int v))) (k : own_E p e below G (T.setTop (mkF m pc' Ls (.int v :: S)))) : own_E p e below G (T.setTop (mkF m pc Ls S)) := by
  subst hp; exact own_go (fun _ => XS.iloadN X.1.here X.2.1 rfl (hb X.2.2.2.1 hd) hl) k
theorem own_iload (X : own_A l Z own cb ml n0 p e R s m args below meth c T h locs cells slots) {i : Nat} {v : Int32} (hd : decode cb pc = .ok (.iload i, 2)) (hp : pc + 2 = pc') (hl : Ls[i]? = some (.val (.int v))) (k : own_E p e below G (T.setTop (mkF m pc' Ls (.int v :: S)))) : own_E p e below G (T.setTop (mkF m pc Ls S)) := by
  subst hp; exact own_go (fun _ => XS.iload X.1.here X.2.1 rfl (hb X.2.2.2.1 hd) hl) k
theorem own_istoreN (X : own_A l Z own cb ml n0 p e R s m args below meth c T h locs cells slots) {i : Fin 4} {x y : Int32} (hd : decode cb pc = .ok (.istore_n i, 1)) (hp : pc + 1 = pc') (hv : x = y) (hl : storeLocals Ls i.val (.int y) = some Ls') (k : own_E p e below G (T.setTop (mkF m pc' Ls' S))) : own_E p e below G (T.setTop (mkF m pc Ls (.int x :: S))) := by
  subst hp; subst hv; exact own_go (fun _ => XS.istoreN X.1.here X.2.1 rfl (hb X.2.2.2.1 hd) rfl hl) k
theorem own_istore (X : own_A l Z own cb ml n0 p e R s m args below meth c T h locs cells slots) {i : Nat} {x y : Int32} (hd : decode cb pc = .ok (.istore i, 2)) (hp : pc + 2 = pc') (hv : x = y) (hl : storeLocals Ls i (.int y) = some Ls') (k : own_E p e below G (T.setTop (mkF m pc' Ls' S))) : own_E p e below G (T.setTop (mkF m pc Ls (.int x :: S))) := by
  subst hp; subst hv; exact own_go (fun _ => XS.istore X.1.here X.2.1 rfl (hb X.2.2.2.1 hd) rfl hl) k
theorem own_lloadN (X : own_A l Z own cb ml n0 p e R s m args below meth c T h locs cells slots) {i : Fin 4} {v : Int64} (hd : decode cb pc = .ok (.lload_n i, 1)) (hp : pc + 1 = pc') (hl : Ls[i.val]? = some (.val (.long v))) (k : own_E p e below G (T.setTop (mkF m pc' Ls (.long v :: S)))) : own_E p e below G (T.setTop (mkF m pc Ls S)) := by
  subst hp; exact own_go (fun _ => XS.lloadN X.1.here X.2.1 rfl (hb X.2.2.2.1 hd) hl) k
theorem own_lload (X : own_A l Z own cb ml n0 p e R s m args below meth c T h locs cells slots) {i : Nat} {v : Int64} (hd : decode cb pc = .ok (.lload i, 2)) (hp : pc + 2 = pc') (hl : Ls[i]? = some (.val (.long v))) (k : own_E p e below G (T.setTop (mkF m pc' Ls (.long v :: S)))) : own_E p e below G (T.setTop (mkF m pc Ls S)) := by
  subst hp; exact own_go (fun _ => XS.lload X.1.here X.2.1 rfl (hb X.2.2.2.1 hd) hl) k
theorem own_lstoreN (X : own_A l Z own cb ml n0 p e R s m args below meth c T h locs cells slots) {i : Fin 4} {x y : Int64} (hd : decode cb pc = .ok (.lstore_n i, 1)) (hp : pc + 1 = pc') (hv : x = y) (hl : storeLocals Ls i.val (.long y) = some Ls') (k : own_E p e below G (T.setTop (mkF m pc' Ls' S))) : own_E p e below G (T.setTop (mkF m pc Ls (.long x :: S))) := by
  subst hp; subst hv; exact own_go (fun _ => XS.lstoreN X.1.here X.2.1 rfl (hb X.2.2.2.1 hd) rfl hl) k
theorem own_lstore (X : own_A l Z own cb ml n0 p e R s m args below meth c T h locs cells slots) {i : Nat} {x y : Int64} (hd : decode cb pc = .ok (.lstore i, 2)) (hp : pc + 2 = pc') (hv : x = y) (hl : storeLocals Ls i (.long y) = some Ls') (k : own_E p e below G (T.setTop (mkF m pc' Ls' S))) : own_E p e below G (T.setTop (mkF m pc Ls (.long x :: S))) := by
  subst hp; subst hv; exact own_go (fun _ => XS.lstore X.1.here X.2.1 rfl (hb X.2.2.2.1 hd) rfl hl) k
theorem own_aloadN (X : own_A l Z own cb ml n0 p e R s m args below meth c T h locs cells slots) {i : Fin 4} {v : Value} (hd : decode cb pc = .ok (.aload_n i, 1)) (hp : pc + 1 = pc') (hl : Ls[i.val]? = some (.val v)) (hr : v.isRef = true) (k : own_E p e below G (T.setTop (mkF m pc' Ls (v :: S)))) : own_E p e below G (T.setTop (mkF m pc Ls S)) := by
  subst hp; exact own_go (fun _ => XS.aloadN X.1.here X.2.1 rfl (hb X.2.2.2.1 hd) hl hr) k
theorem own_aload (X : own_A l Z own cb ml n0 p e R s m args below meth c T h locs cells slots) {i : Nat} {v : Value} (hd : decode cb pc = .ok (.aload i, 2)) (hp : pc + 2 = pc') (hl : Ls[i]? = some (.val v)) (hr : v.isRef = true) (k : own_E p e below G (T.setTop (mkF m pc' Ls (v :: S)))) : own_E p e below G (T.setTop (mkF m pc Ls S)) := by
  subst hp; exact own_go (fun _ => XS.aload X.1.here X.2.1 rfl (hb X.2.2.2.1 hd) hl hr) k
theorem own_astoreN (X : own_A l Z own cb ml n0 p e R s m args below meth c T h locs cells slots) {i : Fin 4} {v : Value} (hd : decode cb pc = .ok (.astore_n i, 1)) (hp : pc + 1 = pc') (hr : v.isRef = true) (hl : storeLocals Ls i.val v = some Ls') (k : own_E p e below G (T.setTop (mkF m pc' Ls' S))) : own_E p e below G (T.setTop (mkF m pc Ls (v :: S))) := by
  subst hp; exact own_go (fun _ => XS.astoreN X.1.here X.2.1 rfl (hb X.2.2.2.1 hd) rfl hr hl) k
theorem own_astore (X : own_A l Z own cb ml n0 p e R s m args below meth c T h locs cells slots) {i : Nat} {v : Value} (hd : decode cb pc = .ok (.astore i, 2)) (hp : pc + 2 = pc') (hr : v.isRef = true) (hl : storeLocals Ls i v = some Ls') (k : own_E p e below G (T.setTop (mkF m pc' Ls' S))) : own_E p e below G (T.setTop (mkF m pc Ls (v :: S))) := by
  subst hp; exact own_go (fun _ => XS.astore X.1.here X.2.1 rfl (hb X.2.2.2.1 hd) rfl hr hl) k
theorem own_iconst (X : own_A l Z own cb ml n0 p e R s m args below meth c T h locs cells slots) {i : Int} {z : Int32} (hd : decode cb pc = .ok (.iconst i, 1)) (hp : pc + 1 = pc') (hz : Int32.ofInt i = z) (k : own_E p e below G (T.setTop (mkF m pc' Ls (.int z :: S)))) : own_E p e below G (T.setTop (mkF m pc Ls S)) := by
  subst hp; subst hz; exact own_go (fun _ => XS.iconst X.1.here X.2.1 rfl (hb X.2.2.2.1 hd)) k
theorem own_bipush (X : own_A l Z own cb ml n0 p e R s m args below meth c T h locs cells slots) {i : Int} {z : Int32} (hd : decode cb pc = .ok (.bipush i, 2)) (hp : pc + 2 = pc') (hz : (Int8.ofInt i).toInt32 = z) (k : own_E p e below G (T.setTop (mkF m pc' Ls (.int z :: S)))) : own_E p e below G (T.setTop (mkF m pc Ls S)) := by
  subst hp; subst hz; exact own_go (fun _ => XS.bipush X.1.here X.2.1 rfl (hb X.2.2.2.1 hd)) k
theorem own_sipush (X : own_A l Z own cb ml n0 p e R s m args below meth c T h locs cells slots) {i : Int} {z : Int32} (hd : decode cb pc = .ok (.sipush i, 3)) (hp : pc + 3 = pc') (hz : (Int16.ofInt i).toInt32 = z) (k : own_E p e below G (T.setTop (mkF m pc' Ls (.int z :: S)))) : own_E p e below G (T.setTop (mkF m pc Ls S)) := by
  subst hp; subst hz; exact own_go (fun _ => XS.sipush X.1.here X.2.1 rfl (hb X.2.2.2.1 hd)) k
theorem own_lconst (X : own_A l Z own cb ml n0 p e R s m args below meth c T h locs cells slots) {i : Fin 2} {z : Int64} (hd : decode cb pc = .ok (.lconst i, 1)) (hp : pc + 1 = pc') (hz : Int64.ofNat i = z) (k : own_E p e below G (T.setTop (mkF m pc' Ls (.long z :: S)))) : own_E p e below G (T.setTop (mkF m pc Ls S)) := by
  subst hp; subst hz; exact own_go (fun _ => XS.lconst X.1.here X.2.1 rfl (hb X.2.2.2.1 hd)) k
theorem own_anull (X : own_A l Z own cb ml n0 p e R s m args below meth c T h locs cells slots)  (hd : decode cb pc = .ok (.aconst_null, 1)) (hp : pc + 1 = pc') (k : own_E p e below G (T.setTop (mkF m pc' Ls (.null :: S)))) : own_E p e below G (T.setTop (mkF m pc Ls S)) := by
  subst hp; exact own_go (fun _ => XS.aconstNull X.1.here X.2.1 rfl (hb X.2.2.2.1 hd)) k
theorem own_iadd (X : own_A l Z own cb ml n0 p e R s m args below meth c T h locs cells slots) {x y z : Int32} (hd : decode cb pc = .ok (.iadd, 1)) (hp : pc + 1 = pc') (hz : x + y = z) (k : own_E p e below G (T.setTop (mkF m pc' Ls (.int z :: S)))) : own_E p e below G (T.setTop (mkF m pc Ls (.int y :: .int x :: S))) := by
  subst hp; subst hz; exact own_go (fun _ => XS.iadd X.1.here X.2.1 rfl (hb X.2.2.2.1 hd) rfl) k
theorem own_isub (X : own_A l Z own cb ml n0 p e R s m args below meth c T h locs cells slots) {x y z : Int32} (hd : decode cb pc = .ok (.isub, 1)) (hp : pc + 1 = pc') (hz : x - y = z) (k : own_E p e below G (T.setTop (mkF m pc' Ls (.int z :: S)))) : own_E p e below G (T.setTop (mkF m pc Ls (.int y :: .int x :: S))) := by
  subst hp; subst hz; exact own_go (fun _ => XS.isub X.1.here X.2.1 rfl (hb X.2.2.2.1 hd) rfl) k
theorem own_imul (X : own_A l Z own cb ml n0 p e R s m args below meth c T h locs cells slots) {x y z : Int32} (hd : decode cb pc = .ok (.imul, 1)) (hp : pc + 1 = pc') (hz : x * y = z) (k : own_E p e below G (T.setTop (mkF m pc' Ls (.int z :: S)))) : own_E p e below G (T.setTop (mkF m pc Ls (.int y :: .int x :: S))) := by
  subst hp; subst hz; exact own_go (fun _ => XS.imul X.1.here X.2.1 rfl (hb X.2.2.2.1 hd) rfl) k
theorem own_iand (X : own_A l Z own cb ml n0 p e R s m args below meth c T h locs cells slots) {x y z : Int32} (hd : decode cb pc = .ok (.iand, 1)) (hp : pc + 1 = pc') (hz : x &&& y = z) (k : own_E p e below G (T.setTop (mkF m pc' Ls (.int z :: S)))) : own_E p e below G (T.setTop (mkF m pc Ls (.int y :: .int x :: S))) := by
  subst hp; subst hz; exact own_go (fun _ => XS.iand X.1.here X.2.1 rfl (hb X.2.2.2.1 hd) rfl) k
theorem own_ior (X : own_A l Z own cb ml n0 p e R s m args below meth c T h locs cells slots) {x y z : Int32} (hd : decode cb pc = .ok (.ior, 1)) (hp : pc + 1 = pc') (hz : x ||| y = z) (k : own_E p e below G (T.setTop (mkF m pc' Ls (.int z :: S)))) : own_E p e below G (T.setTop (mkF m pc Ls (.int y :: .int x :: S))) := by
  subst hp; subst hz; exact own_go (fun _ => XS.ior X.1.here X.2.1 rfl (hb X.2.2.2.1 hd) rfl) k
theorem own_ixor (X : own_A l Z own cb ml n0 p e R s m args below meth c T h locs cells slots) {x y z : Int32} (hd : decode cb pc = .ok (.ixor, 1)) (hp : pc + 1 = pc') (hz : x ^^^ y = z) (k : own_E p e below G (T.setTop (mkF m pc' Ls (.int z :: S)))) : own_E p e below G (T.setTop (mkF m pc Ls (.int y :: .int x :: S))) := by
  subst hp; subst hz; exact own_go (fun _ => XS.ixor X.1.here X.2.1 rfl (hb X.2.2.2.1 hd) rfl) k
theorem own_ishl (X : own_A l Z own cb ml n0 p e R s m args below meth c T h locs cells slots) {x y z : Int32} (hd : decode cb pc = .ok (.ishl, 1)) (hp : pc + 1 = pc') (hz : x <<< (y &&& 31) = z) (k : own_E p e below G (T.setTop (mkF m pc' Ls (.int z :: S)))) : own_E p e below G (T.setTop (mkF m pc Ls (.int y :: .int x :: S))) := by
  subst hp; subst hz; exact own_go (fun _ => XS.ishl X.1.here X.2.1 rfl (hb X.2.2.2.1 hd) rfl) k
theorem own_ishr (X : own_A l Z own cb ml n0 p e R s m args below meth c T h locs cells slots) {x y z : Int32} (hd : decode cb pc = .ok (.ishr, 1)) (hp : pc + 1 = pc') (hz : x >>> (y &&& 31) = z) (k : own_E p e below G (T.setTop (mkF m pc' Ls (.int z :: S)))) : own_E p e below G (T.setTop (mkF m pc Ls (.int y :: .int x :: S))) := by
  subst hp; subst hz; exact own_go (fun _ => XS.ishr X.1.here X.2.1 rfl (hb X.2.2.2.1 hd) rfl) k
theorem own_iushr (X : own_A l Z own cb ml n0 p e R s m args below meth c T h locs cells slots) {x y z : Int32} (hd : decode cb pc = .ok (.iushr, 1)) (hp : pc + 1 = pc') (hz : (x.toUInt32 >>> (y &&& 31).toUInt32).toInt32 = z) (k : own_E p e below G (T.setTop (mkF m pc' Ls (.int z :: S)))) : own_E p e below G (T.setTop (mkF m pc Ls (.int y :: .int x :: S))) := by
  subst hp; subst hz; exact own_go (fun _ => XS.iushr X.1.here X.2.1 rfl (hb X.2.2.2.1 hd) rfl) k
theorem own_ladd (X : own_A l Z own cb ml n0 p e R s m args below meth c T h locs cells slots) {x y z : Int64} (hd : decode cb pc = .ok (.ladd, 1)) (hp : pc + 1 = pc') (hz : x + y = z) (k : own_E p e below G (T.setTop (mkF m pc' Ls (.long z :: S)))) : own_E p e below G (T.setTop (mkF m pc Ls (.long y :: .long x :: S))) := by
  subst hp; subst hz; exact own_go (fun _ => XS.ladd X.1.here X.2.1 rfl (hb X.2.2.2.1 hd) rfl) k
theorem own_lsub (X : own_A l Z own cb ml n0 p e R s m args below meth c T h locs cells slots) {x y z : Int64} (hd : decode cb pc = .ok (.lsub, 1)) (hp : pc + 1 = pc') (hz : x - y = z) (k : own_E p e below G (T.setTop (mkF m pc' Ls (.long z :: S)))) : own_E p e below G (T.setTop (mkF m pc Ls (.long y :: .long x :: S))) := by
  subst hp; subst hz; exact own_go (fun _ => XS.lsub X.1.here X.2.1 rfl (hb X.2.2.2.1 hd) rfl) k
theorem own_lmul (X : own_A l Z own cb ml n0 p e R s m args below meth c T h locs cells slots) {x y z : Int64} (hd : decode cb pc = .ok (.lmul, 1)) (hp : pc + 1 = pc') (hz : x * y = z) (k : own_E p e below G (T.setTop (mkF m pc' Ls (.long z :: S)))) : own_E p e below G (T.setTop (mkF m pc Ls (.long y :: .long x :: S))) := by
  subst hp; subst hz; exact own_go (fun _ => XS.lmul X.1.here X.2.1 rfl (hb X.2.2.2.1 hd) rfl) k
theorem own_land (X : own_A l Z own cb ml n0 p e R s m args below meth c T h locs cells slots) {x y z : Int64} (hd : decode cb pc = .ok (.land, 1)) (hp : pc + 1 = pc') (hz : x &&& y = z) (k : own_E p e below G (T.setTop (mkF m pc' Ls (.long z :: S)))) : own_E p e below G (T.setTop (mkF m pc Ls (.long y :: .long x :: S))) := by
  subst hp; subst hz; exact own_go (fun _ => XS.land X.1.here X.2.1 rfl (hb X.2.2.2.1 hd) rfl) k
theorem own_lor (X : own_A l Z own cb ml n0 p e R s m args below meth c T h locs cells slots) {x y z : Int64} (hd : decode cb pc = .ok (.lor, 1)) (hp : pc + 1 = pc') (hz : x ||| y = z) (k : own_E p e below G (T.setTop (mkF m pc' Ls (.long z :: S)))) : own_E p e below G (T.setTop (mkF m pc Ls (.long y :: .long x :: S))) := by
  subst hp; subst hz; exact own_go (fun _ => XS.lor X.1.here X.2.1 rfl (hb X.2.2.2.1 hd) rfl) k
theorem own_lxor (X : own_A l Z own cb ml n0 p e R s m args below meth c T h locs cells slots) {x y z : Int64} (hd : decode cb pc = .ok (.lxor, 1)) (hp : pc + 1 = pc') (hz : x ^^^ y = z) (k : own_E p e below G (T.setTop (mkF m pc' Ls (.long z :: S)))) : own_E p e below G (T.setTop (mkF m pc Ls (.long y :: .long x :: S))) := by
  subst hp; subst hz; exact own_go (fun _ => XS.lxor X.1.here X.2.1 rfl (hb X.2.2.2.1 hd) rfl) k
theorem own_lshl (X : own_A l Z own cb ml n0 p e R s m args below meth c T h locs cells slots) {x z : Int64} {y : Int32} (hd : decode cb pc = .ok (.lshl, 1)) (hp : pc + 1 = pc') (hz : x <<< (y &&& 0x3f).toInt64 = z) (k : own_E p e below G (T.setTop (mkF m pc' Ls (.long z :: S)))) : own_E p e below G (T.setTop (mkF m pc Ls (.int y :: .long x :: S))) := by
  subst hp; subst hz; exact own_go (fun _ => XS.lshl X.1.here X.2.1 rfl (hb X.2.2.2.1 hd) rfl) k
theorem own_lshr (X : own_A l Z own cb ml n0 p e R s m args below meth c T h locs cells slots) {x z : Int64} {y : Int32} (hd : decode cb pc = .ok (.lshr, 1)) (hp : pc + 1 = pc') (hz : x >>> (y &&& 0x3f).toInt64 = z) (k : own_E p e below G (T.setTop (mkF m pc' Ls (.long z :: S)))) : own_E p e below G (T.setTop (mkF m pc Ls (.int y :: .long x :: S))) := by
  subst hp; subst hz; exact own_go (fun _ => XS.lshr X.1.here X.2.1 rfl (hb X.2.2.2.1 hd) rfl) k
theorem own_lushr (X : own_A l Z own cb ml n0 p e R s m args below meth c T h locs cells slots) {x z : Int64} {y : Int32} (hd : decode cb pc = .ok (.lushr, 1)) (hp : pc + 1 = pc') (hz : (x.toUInt64 >>> (y &&& 0x3f).toInt64.toUInt64).toInt64 = z) (k : own_E p e below G (T.setTop (mkF m pc' Ls (.long z :: S)))) : own_E p e below G (T.setTop (mkF m pc Ls (.int y :: .long x :: S))) := by
  subst hp; subst hz; exact own_go (fun _ => XS.lushr X.1.here X.2.1 rfl (hb X.2.2.2.1 hd) rfl) k
theorem own_idiv (X : own_A l Z own cb ml n0 p e R s m args below meth c T h locs cells slots) {x y z : Int32} (hd : decode cb pc = .ok (.idiv, 1)) (hp : pc + 1 = pc') (hy : y ≠ 0) (hz : x / y = z) (k : own_E p e below G (T.setTop (mkF m pc' Ls (.int z :: S)))) : own_E p e below G (T.setTop (mkF m pc Ls (.int y :: .int x :: S))) := by
  subst hp; subst hz; exact own_go (fun _ => XS.idiv X.1.here X.2.1 rfl (hb X.2.2.2.1 hd) rfl hy) k
theorem own_irem (X : own_A l Z own cb ml n0 p e R s m args below meth c T h locs cells slots) {x y z : Int32} (hd : decode cb pc = .ok (.irem, 1)) (hp : pc + 1 = pc') (hy : y ≠ 0) (hz : x % y = z) (k : own_E p e below G (T.setTop (mkF m pc' Ls (.int z :: S)))) : own_E p e below G (T.setTop (mkF m pc Ls (.int y :: .int x :: S))) := by
  subst hp; subst hz; exact own_go (fun _ => iremM X.1 X.2.1 rfl (hb X.2.2.2.1 hd) rfl hy) k
theorem own_ldiv (X : own_A l Z own cb ml n0 p e R s m args below meth c T h locs cells slots) {x y z : Int64} (hd : decode cb pc = .ok (.ldiv, 1)) (hp : pc + 1 = pc') (hy : y ≠ 0) (hz : x / y = z) (k : own_E p e below G (T.setTop (mkF m pc' Ls (.long z :: S)))) : own_E p e below G (T.setTop (mkF m pc Ls (.long y :: .long x :: S))) := by
  subst hp; subst hz; exact own_go (fun _ => XS.ldiv X.1.here X.2.1 rfl (hb X.2.2.2.1 hd) rfl hy) k
theorem own_lrem (X : own_A l Z own cb ml n0 p e R s m args below meth c T h locs cells slots) {x y z : Int64} (hd : decode cb pc = .ok (.lrem, 1)) (hp : pc + 1 = pc') (hy : y ≠ 0) (hz : x - (x / y) * y = z) (k : own_E p e below G (T.setTop (mkF m pc' Ls (.long z :: S)))) : own_E p e below G (T.setTop (mkF m pc Ls (.long y :: .long x :: S))) := by
  subst hp; subst hz; exact own_go (fun _ => XS.lrem X.1.here X.2.1 rfl (hb X.2.2.2.1 hd) rfl hy) k
theorem own_ineg (X : own_A l Z own cb ml n0 p e R s m args below meth c T h locs cells slots) {x : Int32} {z : Int32} (hd : decode cb pc = .ok (.ineg, 1)) (hp : pc + 1 = pc') (hz : -x = z) (k : own_E p e below G (T.setTop (mkF m pc' Ls (.int z :: S)))) : own_E p e below G (T.setTop (mkF m pc Ls (.int x :: S))) := by
  subst hp; subst hz; exact own_go (fun _ => XS.ineg X.1.here X.2.1 rfl (hb X.2.2.2.1 hd) rfl) k
theorem own_lneg (X : own_A l Z own cb ml n0 p e R s m args below meth c T h locs cells slots) {x : Int64} {z : Int64} (hd : decode cb pc = .ok (.lneg, 1)) (hp : pc + 1 = pc') (hz : -x = z) (k : own_E p e below G (T.setTop (mkF m pc' Ls (.long z :: S)))) : own_E p e below G (T.setTop (mkF m pc Ls (.long x :: S))) := by
  subst hp; subst hz; exact own_go (fun _ => XS.lneg X.1.here X.2.1 rfl (hb X.2.2.2.1 hd) rfl) k
theorem own_i2l (X : own_A l Z own cb ml n0 p e R s m args below meth c T h locs cells slots) {x : Int32} {z : Int64} (hd : decode cb pc = .ok (.i2l, 1)) (hp : pc + 1 = pc') (hz : x.toInt64 = z) (k : own_E p e below G (T.setTop (mkF m pc' Ls (.long z :: S)))) : own_E p e below G (T.setTop (mkF m pc Ls (.int x :: S))) := by
  subst hp; subst hz; exact own_go (fun _ => XS.i2l X.1.here X.2.1 rfl (hb X.2.2.2.1 hd) rfl) k
theorem own_l2i (X : own_A l Z own cb ml n0 p e R s m args below meth c T h locs cells slots) {x : Int64} {z : Int32} (hd : decode cb pc = .ok (.l2i, 1)) (hp : pc + 1 = pc') (hz : x.toInt32 = z) (k : own_E p e below G (T.setTop (mkF m pc' Ls (.int z :: S)))) : own_E p e below G (T.setTop (mkF m pc Ls (.long x :: S))) := by
  subst hp; subst hz; exact own_go (fun _ => XS.l2i X.1.here X.2.1 rfl (hb X.2.2.2.1 hd) rfl) k
theorem own_i2b (X : own_A l Z own cb ml n0 p e R s m args below meth c T h locs cells slots) {x : Int32} {z : Int32} (hd : decode cb pc = .ok (.i2b, 1)) (hp : pc + 1 = pc') (hz : x.toInt8.toInt32 = z) (k : own_E p e below G (T.setTop (mkF m pc' Ls (.int z :: S)))) : own_E p e below G (T.setTop (mkF m pc Ls (.int x :: S))) := by
  subst hp; subst hz; exact own_go (fun _ => XS.i2b X.1.here X.2.1 rfl (hb X.2.2.2.1 hd) rfl) k
theorem own_i2s (X : own_A l Z own cb ml n0 p e R s m args below meth c T h locs cells slots) {x : Int32} {z : Int32} (hd : decode cb pc = .ok (.i2s, 1)) (hp : pc + 1 = pc') (hz : x.toInt16.toInt32 = z) (k : own_E p e below G (T.setTop (mkF m pc' Ls (.int z :: S)))) : own_E p e below G (T.setTop (mkF m pc Ls (.int x :: S))) := by
  subst hp; subst hz; exact own_go (fun _ => XS.i2s X.1.here X.2.1 rfl (hb X.2.2.2.1 hd) rfl) k
theorem own_i2c (X : own_A l Z own cb ml n0 p e R s m args below meth c T h locs cells slots) {x : Int32} {z : Int32} (hd : decode cb pc = .ok (.i2c, 1)) (hp : pc + 1 = pc') (hz : x.toUInt32.toUInt16.toUInt32.toInt32 = z) (k : own_E p e below G (T.setTop (mkF m pc' Ls (.int z :: S)))) : own_E p e below G (T.setTop (mkF m pc Ls (.int x :: S))) := by
  subst hp; subst hz; exact own_go (fun _ => XS.i2c X.1.here X.2.1 rfl (hb X.2.2.2.1 hd) rfl) k
theorem own_iinc (X : own_A l Z own cb ml n0 p e R s m args below meth c T h locs cells slots) {i : Nat} {cst : Int} {x z : Int32} (hd : decode cb pc = .ok (.iinc i cst, 3)) (hp : pc + 3 = pc') (hl : Ls[i]? = some (.val (.int x))) (hz : x + Int32.ofInt cst = z) (hl' : storeLocals Ls i (.int z) = some Ls') (k : own_E p e below G (T.setTop (mkF m pc' Ls' S))) : own_E p e below G (T.setTop (mkF m pc Ls S)) := by
  subst hp; subst hz; exact own_go (fun _ => XS.iinc X.1.here X.2.1 rfl (hb X.2.2.2.1 hd) hl hl') k
theorem own_dup (X : own_A l Z own cb ml n0 p e R s m args below meth c T h locs cells slots) {v : Value} (hd : decode cb pc = .ok (.dup, 1)) (hp : pc + 1 = pc') (hc : v.category = 1) (k : own_E p e below G (T.setTop (mkF m pc' Ls (v :: v :: S)))) : own_E p e below G (T.setTop (mkF m pc Ls (v :: S))) := by
  subst hp; exact own_go (fun _ => XS.dup X.1.here X.2.1 rfl (hb X.2.2.2.1 hd) rfl hc) k
theorem own_pop (X : own_A l Z own cb ml n0 p e R s m args below meth c T h locs cells slots) {v : Value} (hd : decode cb pc = .ok (.pop, 1)) (hp : pc + 1 = pc') (hc : v.category = 1) (k : own_E p e below G (T.setTop (mkF m pc' Ls S))) : own_E p e below G (T.setTop (mkF m pc Ls (v :: S))) := by
  subst hp; exact own_go (fun _ => XS.pop X.1.here X.2.1 rfl (hb X.2.2.2.1 hd) rfl hc) k
theorem own_goto (X : own_A l Z own cb ml n0 p e R s m args below meth c T h locs cells slots) {o : Int} (hd : decode cb pc = .ok (.goto o, 3)) (ho : 0 ≤ (pc : Int) + o) (hp : ((pc : Int) + o).toNat = pc') (k : own_E p e below G (T.setTop (mkF m pc' Ls S))) : own_E p e below G (T.setTop (mkF m pc Ls S)) :=
  own_go (fun _ => XS.goto X.1.here X.2.1 rfl rfl (hb X.2.2.2.1 hd) ho hp) k
theorem own_icmpY (X : own_A l Z own cb ml n0 p e R s m args below meth c T h locs cells slots) {cd : ClassFile.Cond} {o : Int} {x y : Int32} (hd : decode cb pc = .ok (.if_icmp cd o, 3)) (hc : if_icmp.holds cd x y = true) (ho : 0 ≤ (pc : Int) + o) (hp : ((pc : Int) + o).toNat = pc') (k : own_E p e below G (T.setTop (mkF m pc' Ls S))) : own_E p e below G (T.setTop (mkF m pc Ls (.int y :: .int x :: S))) :=
  own_go (fun _ => XS.icmpYes X.1.here X.2.1 rfl rfl (hb X.2.2.2.1 hd) rfl hc ho hp) k
theorem own_icmpN (X : own_A l Z own cb ml n0 p e R s m args below meth c T h locs cells slots) {cd : ClassFile.Cond} {o : Int} {x y : Int32} (hd : decode cb pc = .ok (.if_icmp cd o, 3)) (hc : if_icmp.holds cd x y = false) (hp : pc + 3 = pc') (k : own_E p e below G (T.setTop (mkF m pc' Ls S))) : own_E p e below G (T.setTop (mkF m pc Ls (.int y :: .int x :: S))) := by
  subst hp; exact own_go (fun _ => XS.icmpNo X.1.here X.2.1 rfl (hb X.2.2.2.1 hd) rfl hc) k
theorem own_ifY (X : own_A l Z own cb ml n0 p e R s m args below meth c T h locs cells slots) {cd : ClassFile.Cond} {o : Int} {x : Int32} (hd : decode cb pc = .ok (.ifCond cd o, 3)) (hc : if_icmp.holds cd x 0 = true) (ho : 0 ≤ (pc : Int) + o) (hp : ((pc : Int) + o).toNat = pc') (k : own_E p e below G (T.setTop (mkF m pc' Ls S))) : own_E p e below G (T.setTop (mkF m pc Ls (.int x :: S))) :=
  own_go (fun _ => XS.ifYes X.1.here X.2.1 rfl rfl (hb X.2.2.2.1 hd) rfl ((if0 _ _).trans hc) ho hp) k
theorem own_ifN (X : own_A l Z own cb ml n0 p e R s m args below meth c T h locs cells slots) {cd : ClassFile.Cond} {o : Int} {x : Int32} (hd : decode cb pc = .ok (.ifCond cd o, 3)) (hc : if_icmp.holds cd x 0 = false) (hp : pc + 3 = pc') (k : own_E p e below G (T.setTop (mkF m pc' Ls S))) : own_E p e below G (T.setTop (mkF m pc Ls (.int x :: S))) := by
  subst hp; exact own_go (fun _ => XS.ifNo X.1.here X.2.1 rfl (hb X.2.2.2.1 hd) rfl ((if0 _ _).trans hc)) k
theorem own_ljY (X : own_A l Z own cb ml n0 p e R s m args below meth c T h locs cells slots) {cd : ClassFile.Cond} {o : Int} {x y : Int64} {pc1 : Nat} (hd1 : decode cb pc = .ok (.lcmp, 1)) (h1 : pc + 1 = pc1) (hd : decode cb pc1 = .ok (.ifCond cd o, 3)) (hc : if_icmp.holds cd (lcmpW x y) 0 = true) (ho : 0 ≤ (pc1 : Int) + o) (hp : ((pc1 : Int) + o).toNat = pc') (k : own_E p e below G (T.setTop (mkF m pc' Ls S))) : own_E p e below G (T.setTop (mkF m pc Ls (.long y :: .long x :: S))) := by
  subst h1
  exact own_go (fun _ k => XS.lcmp X.1.here X.2.1 rfl (hb X.2.2.2.1 hd1) rfl (XS.ifYes X.1.here X.2.1 rfl rfl (hb X.2.2.2.1 hd) rfl ((if0 _ _).trans hc) ho hp k)) k
theorem own_ljN (X : own_A l Z own cb ml n0 p e R s m args below meth c T h locs cells slots) {cd : ClassFile.Cond} {o : Int} {x y : Int64} {pc1 : Nat} (hd1 : decode cb pc = .ok (.lcmp, 1)) (h1 : pc + 1 = pc1) (hd : decode cb pc1 = .ok (.ifCond cd o, 3)) (hc : if_icmp.holds cd (lcmpW x y) 0 = false) (hp : pc1 + 3 = pc') (k : own_E p e below G (T.setTop (mkF m pc' Ls S))) : own_E p e below G (T.setTop (mkF m pc Ls (.long y :: .long x :: S))) := by
  subst h1; subst hp
  exact own_go (fun _ k => XS.lcmp X.1.here X.2.1 rfl (hb X.2.2.2.1 hd1) rfl (XS.ifNo X.1.here X.2.1 rfl (hb X.2.2.2.1 hd) rfl ((if0 _ _).trans hc) k)) k
theorem own_tltL {x y : Int64} (q : x < y) : if_icmp.holds .lt (lcmpW x y) 0 = true ∧ if_icmp.holds .ge (lcmpW x y) 0 = false ∧ if_icmp.holds .gt (lcmpW y x) 0 = true ∧ if_icmp.holds .le (lcmpW y x) 0 = false :=
  ⟨(tlt ((lw_lt x y).mpr q)).1, (tlt ((lw_lt x y).mpr q)).2.1, (tlt ((lw_gt y x).mpr q)).2.2.1, (tlt ((lw_gt y x).mpr q)).2.2.2⟩
theorem own_fltL {x y : Int64} (q : ¬ x < y) : if_icmp.holds .lt (lcmpW x y) 0 = false ∧ if_icmp.holds .ge (lcmpW x y) 0 = true ∧ if_icmp.holds .gt (lcmpW y x) 0 = false ∧ if_icmp.holds .le (lcmpW y x) 0 = true :=
  ⟨(flt (fun z => q ((lw_lt x y).mp z))).1, (flt (fun z => q ((lw_lt x y).mp z))).2.1, (flt (fun z => q ((lw_gt y x).mp z))).2.2.1, (flt (fun z => q ((lw_gt y x).mp z))).2.2.2⟩
theorem own_teqL {x y : Int64} (q : x = y) : if_icmp.holds .eq (lcmpW x y) 0 = true ∧ if_icmp.holds .ne (lcmpW x y) 0 = false := teq ((lw_eq x y).mpr q)
theorem own_feqL {x y : Int64} (q : ¬ x = y) : if_icmp.holds .eq (lcmpW x y) 0 = false ∧ if_icmp.holds .ne (lcmpW x y) 0 = true := feq (fun z => q ((lw_eq x y).mp z))
theorem own_ifnullY (X : own_A l Z own cb ml n0 p e R s m args below meth c T h locs cells slots) {o : Int} (hd : decode cb pc = .ok (.ifnull o, 3)) (ho : 0 ≤ (pc : Int) + o) (hp : ((pc : Int) + o).toNat = pc') (k : own_E p e below G (T.setTop (mkF m pc' Ls S))) : own_E p e below G (T.setTop (mkF m pc Ls (.null :: S))) :=
  own_go (fun _ => XS.ifnullYes X.1.here X.2.1 rfl rfl (hb X.2.2.2.1 hd) rfl ho hp) k
theorem own_ifnullN (X : own_A l Z own cb ml n0 p e R s m args below meth c T h locs cells slots) {o : Int} {b : Addr} (hd : decode cb pc = .ok (.ifnull o, 3)) (hp : pc + 3 = pc') (k : own_E p e below G (T.setTop (mkF m pc' Ls S))) : own_E p e below G (T.setTop (mkF m pc Ls (.ref b :: S))) := by
  subst hp; exact own_go (fun _ => XS.ifnullNo X.1.here X.2.1 rfl (hb X.2.2.2.1 hd) rfl) k
theorem own_ldc (X : own_A l Z own cb ml n0 p e R s m args below meth c T h locs cells slots) {i : Nat} {v : Int32} (w : (Jvm.Cond.constant own i v).before a0 Z = true) (hd : decode cb pc = .ok (.ldc i, 2)) (hp : pc + 2 = pc') (k : own_E p e below G (T.setTop (mkF m pc' Ls (.int v :: S)))) : own_E p e below G (T.setTop (mkF m pc Ls S)) := by
  subst hp; exact own_go (X.1.ldcInt X.2.1 X.2.2.2.2.2.1 (mvT X.2.2.1 w) rfl (hb X.2.2.2.1 hd)) k
theorem own_ldc2 (X : own_A l Z own cb ml n0 p e R s m args below meth c T h locs cells slots) {i : Nat} {v : Int64} (w : (Jvm.Cond.constantLong own i v).before a0 Z = true) (hd : decode cb pc = .ok (.ldc2_w i, 3)) (hp : pc + 3 = pc') (k : own_E p e below G (T.setTop (mkF m pc' Ls (.long v :: S)))) : own_E p e below G (T.setTop (mkF m pc Ls S)) := by
  subst hp; exact own_go (X.1.ldc2Long X.2.1 X.2.2.2.2.2.1 (mvT X.2.2.1 w) rfl (hb X.2.2.2.1 hd)) k
theorem own_callS (X : own_A l Z own cb ml n0 p e R s m args below meth c T h locs cells slots) {y : MethodName} {cb' : ByteArray} {ml' : Nat} {ret' : Option FieldType} {rm : Room} {argsL st : List Value} {Q : Option Value → Heap → Prop} {i : Nat} (hC : own_Con l Z y cb' ml' ret' rm argsL.toArray h n0 Q)
    (w1 : (Jvm.Cond.methodLink own i y).before a0 Z = true) (w2 : (Jvm.Cond.static y).before a0 Z = true) (w3 : (Jvm.Cond.initialized y.cls).before a0 Z = true) (w4 : (Jvm.Cond.code y cb' ml' ret').before a0 Z = true) (hy : y.cls ≠ "java/lang/invoke/MethodHandle" ∧ y.cls ≠ "java/lang/invoke/VarHandle")
    (hf : rm.frames + 1 ≤ R.frames) (W : Nat) (hl : W + (ml' + 11) + rm.locals ≤ R.locals) (hls : Ls.size = ml) {ps : List FieldType} {r : Option FieldType} (hpd : parseMethodDescriptor y.desc = some ⟨ps, r⟩) (hlen : argsL.length = ps.length) (hst : st = argsL.reverse ++ S) (hW : (S.map fun v => v.category).sum ≤ W) (hcl : cells + rm.cells ≤ R.cells) (hsl : slots + rm.slots ≤ R.slots)
    (hd : decode cb pc = .ok (.invokestatic i, 3)) (hp : pc + 3 = pc') (k : ∀ T' h' locs' v, own_A l Z own cb ml n0 p e R s m args below meth c T' h' locs' (cells + rm.cells) (slots + rm.slots) → Q v h' → own_E p e below G (T'.setTop (mkF m pc' Ls (v.toList ++ S)))) : own_E p e below G (T.setTop (mkF m pc Ls st)) := by
  obtain ⟨X, hx, hZ, hby, hml, hown, eT, N, hsz, hlk⟩ := X
  subst hp
  obtain ⟨v, _, ⟨T', L', k', n'⟩, -, X', ⟨Lc, hQ, q1, q2, q3⟩, stp⟩ := Jvm.LawKit.callS X hx (y := y) hown (mvT hZ w1) (mvT hZ w2) (mvT hZ w3) (mvT hZ w4) hy (backOf (Q := fun v h L => Q v h ∧ Fr n0 L ∧ n0 ≤ h.size) (W := W) (hC []) hZ w4 w3 hf hl) (g := mkF m pc Ls st) rfl (by rw [hml]; exact hls) (argsL := argsL) (rest := S) (lenOf hpd hlen) hst (by show 2 * 0 + _ ≤ _; omega) (hb hby hd) (fun _ _ => ⟨rfl, eT, hcl, hsl⟩)
  dsimp only [Pt.U, Pt.locs, Pt.cells, Pt.slots] at X' q1 q2 q3 stp hQ
  subst q1 q2 q3
  exact own_go stp (k _ _ _ _ ⟨X', hx, hZ, hby, hml, hown, rfl, N.app hQ.2.1, hQ.2.2, hlk⟩ hQ.1)
theorem own_callI (X : own_A l Z own cb ml n0 p e R s m args below meth c T h locs cells slots) {y : MethodName} {cb' : ByteArray} {ml' : Nat} {rm : Room} {a : Addr} {argsL st : List Value} {Q : Option Value → Heap → Prop} {i : Nat} (hC : own_Con l Z y cb' ml' none rm (.ref a :: argsL).toArray h n0 Q) (hy1 : y.name = "<init>")
    (w1 : (Jvm.Cond.methodLink own i y).before a0 Z = true) (w2 : (Jvm.Cond.instanceMethod y).before a0 Z = true) (w3 : (Jvm.Cond.initialized y.cls).before a0 Z = true) (w4 : (Jvm.Cond.code y cb' ml' none).before a0 Z = true) (hy : y.cls ≠ "java/lang/invoke/MethodHandle" ∧ y.cls ≠ "java/lang/invoke/VarHandle")
    (hf : rm.frames + 1 ≤ R.frames) (W : Nat) (hl : W + (ml' + 11) + rm.locals ≤ R.locals) (hls : Ls.size = ml) {ps : List FieldType} {r : Option FieldType} (hpd : parseMethodDescriptor y.desc = some ⟨ps, r⟩) (hlen : argsL.length = ps.length) (hst : st = argsL.reverse ++ .ref a :: S) (hW : (S.map fun v => v.category).sum ≤ W) (hcl : cells + rm.cells ≤ R.cells) (hsl : slots + rm.slots ≤ R.slots)
    (hd : decode cb pc = .ok (.invokespecial i, 3)) (hp : pc + 3 = pc') (k : ∀ T' h' locs' v, own_A l Z own cb ml n0 p e R s m args below meth c T' h' locs' (cells + rm.cells) (slots + rm.slots) → Q v h' → own_E p e below G (T'.setTop (mkF m pc' Ls (v.toList ++ S)))) : own_E p e below G (T.setTop (mkF m pc Ls st)) := by
  obtain ⟨X, hx, hZ, hby, hml, hown, eT, N, hsz, hlk⟩ := X
  subst hp
  obtain ⟨v, _, ⟨T', L', k', n'⟩, -, X', ⟨Lc, hQ, q1, q2, q3⟩, stp⟩ := X.specialBack hx (y := y) hy1 hown (mvT hZ w1) (mvT hZ w2) (mvT hZ w4) hy (backOf (Q := fun v h L => Q v h ∧ Fr n0 L ∧ n0 ≤ h.size) (W := W) (hC []) hZ w4 w3 hf hl) (g := mkF m pc Ls st) rfl (by rw [hml]; exact hls) (Steps.refl _) (a := a) (argsL := argsL) (rest := S) (lenOf hpd hlen) hst (by show 2 * 0 + _ ≤ _; omega) (hb hby hd) (fun _ _ => ⟨rfl, eT, hcl, hsl⟩)
  dsimp only [Pt.U, Pt.locs, Pt.cells, Pt.slots] at X' q1 q2 q3 stp hQ
  subst q1 q2 q3
  exact own_go (fun _ z => stp.trans z) (k _ _ _ _ ⟨X', hx, hZ, hby, hml, hown, rfl, N.app hQ.2.1, hQ.2.2, hlk⟩ hQ.1)
theorem own_callV (X : own_A l Z own cb ml n0 p e R s m args below meth c T h locs cells slots) {y : MethodName} {C : String} {cb' : ByteArray} {ml' : Nat} {ret' : Option FieldType} {rm : Room} {a : Addr} {argsL st : List Value} {Q : Option Value → Heap → Prop} {i : Nat} (hC : own_Con l Z y cb' ml' ret' rm (.ref a :: argsL).toArray h n0 Q) (E : Exa Z h a C)
    (w1 : (Jvm.Cond.methodLink own i y).before a0 Z = true) (w2 : (Jvm.Cond.declares y).before a0 Z = true) (w5 : (Jvm.Cond.selects C y y).before a0 Z = true) (w6 : (Jvm.Cond.instanceMethod y).before a0 Z = true) (w3 : (Jvm.Cond.initialized y.cls).before a0 Z = true) (w4 : (Jvm.Cond.code y cb' ml' ret').before a0 Z = true) (hy : y.cls ≠ "java/lang/invoke/MethodHandle" ∧ y.cls ≠ "java/lang/invoke/VarHandle")
    (hf : rm.frames + 1 ≤ R.frames) (W : Nat) (hl : W + (ml' + 11) + rm.locals ≤ R.locals) (hls : Ls.size = ml) {ps : List FieldType} {r : Option FieldType} (hpd : parseMethodDescriptor y.desc = some ⟨ps, r⟩) (hlen : argsL.length = ps.length) (hst : st = argsL.reverse ++ .ref a :: S) (hW : (S.map fun v => v.category).sum ≤ W) (hcl : cells + rm.cells ≤ R.cells) (hsl : slots + rm.slots ≤ R.slots)
    (hd : decode cb pc = .ok (.invokevirtual i, 3)) (hp : pc + 3 = pc') (hC0 : y.cls = C) (k : ∀ T' h' locs' v, own_A l Z own cb ml n0 p e R s m args below meth c T' h' locs' (cells + rm.cells) (slots + rm.slots) → Q v h' → own_E p e below G (T'.setTop (mkF m pc' Ls (v.toList ++ S)))) : own_E p e below G (T.setTop (mkF m pc Ls st)) := by
  obtain ⟨X, hx, hZ, hby, hml, hown, eT, N, hsz, hlk⟩ := X
  subst hp; subst hC0
  obtain ⟨cq, kq, qa, qb, qc⟩ := isOf hZ eT E
  obtain ⟨v, _, ⟨T', L', k', n'⟩, -, X', ⟨Lc, hQ, q1, q2, q3⟩, stp⟩ := X.virtualBack hx (y := y) (z := y) hown (mvT hZ w1) (mvT hZ w2) (notFace_of_selects (args := #[]) (mvT hZ w5)) (mvT hZ w5) (mvT hZ w6) hy (backOf (Q := fun v h L => Q v h ∧ Fr n0 L ∧ n0 ≤ h.size) (W := W) (hC []) hZ w4 w3 hf hl) qa qc (g := mkF m pc Ls st) rfl (by rw [hml]; exact hls) (Steps.refl _) (argsL := argsL) (rest := S) (lenOf hpd hlen) hst (by show 2 * 0 + _ ≤ _; omega) (hb hby hd) (fun _ _ => ⟨rfl, eT, hcl, hsl⟩)
  dsimp only [Pt.U, Pt.locs, Pt.cells, Pt.slots] at X' q1 q2 q3 stp hQ
  subst q1 q2 q3
  exact own_go (fun _ z => stp.trans z) (k _ _ _ _ ⟨X', hx, hZ, hby, hml, hown, rfl, N.app hQ.2.1, hQ.2.2, hlk⟩ hQ.1)
theorem own_initO (X : own_A l Z own cb ml n0 p e R s m args below meth c T h locs cells slots) {i : Nat} {a : Addr} (w1 : (Jvm.Cond.methodLink own i Lib.objectInit).before a0 Z = true) (w2 : (Jvm.Cond.instanceMethod Lib.objectInit).before a0 Z = true) (w3 : (Jvm.Cond.code Lib.objectInit ⟨#[0xb1]⟩ 1 none).before a0 Z = true) (hls : Ls.size = ml) (hf : 1 ≤ R.frames) (W : Nat) (hW : (S.map fun v => v.category).sum ≤ W) (hl : W + 12 ≤ R.locals)
    (hd : decode cb pc = .ok (.invokespecial i, 3)) (hp : pc + 3 = pc') (k : ∀ T', own_A l Z own cb ml n0 p e R s m args below meth c T' h locs cells slots → own_E p e below G (T'.setTop (mkF m pc' Ls S))) : own_E p e below G (T.setTop (mkF m pc Ls (.ref a :: S))) := by
  obtain ⟨X, hx, hZ, hby, hml, hown, eT, N, hsz, hlk⟩ := X
  subst hp
  obtain ⟨T', X', eT', stp⟩ := initO X hx hZ hown w1 w2 w3 eT (g := mkF m pc Ls (.ref a :: S)) rfl (by rw [hml]; exact hls) rfl (hb hby hd) hf (W := W) (by show 2 * 0 + _ ≤ _; omega) hl
  exact own_go stp (k _ ⟨X', hx, hZ, hby, hml, hown, eT', N, hsz, hlk⟩)
theorem own_getF (X : own_A l Z own cb ml n0 p e R s m args below meth c T h locs cells slots) {i : Nat} {a : Addr} {C f d : String} {v : Value} (w1 : (Jvm.Cond.fieldLink own i C f d).before a0 Z = true) (F : Fld Z h a C f d v)
    (hd : decode cb pc = .ok (.getfield i, 3)) (hp : pc + 3 = pc') (k : ∀ T', own_A l Z own cb ml n0 p e R s m args below meth c T' h locs cells slots → own_E p e below G (T'.setTop (mkF m pc' Ls (v :: S)))) : own_E p e below G (T.setTop (mkF m pc Ls (.ref a :: S))) := by
  obtain ⟨X, hx, hZ, hby, hml, hown, eT, N, hsz, hlk⟩ := X
  subst hp
  obtain ⟨T', X', eT', stp⟩ := getF X hx hZ hown (host := "") (Or.inl w1) Via.refl eT F (g := mkF m pc Ls (.ref a :: S)) rfl rfl (hb hby hd)
  exact own_go stp (k _ ⟨X', hx, hZ, hby, hml, hown, eT', N, hsz, hlk⟩)
theorem own_getS (X : own_A l Z own cb ml n0 p e R s m args below meth c T h locs cells slots) {i : Nat} {C f d : String} {v : Value} (w1 : (Jvm.Cond.fieldLink own i C f d).before a0 Z = true) (F : Sta Z h C f d v)
    (hd : decode cb pc = .ok (.getstatic i, 3)) (hp : pc + 3 = pc') (k : ∀ T', own_A l Z own cb ml n0 p e R s m args below meth c T' h locs cells slots → own_E p e below G (T'.setTop (mkF m pc' Ls (v :: S)))) : own_E p e below G (T.setTop (mkF m pc Ls S)) := by
  obtain ⟨X, hx, hZ, hby, hml, hown, eT, N, hsz, hlk⟩ := X
  subst hp
  obtain ⟨T', X', eT', stp⟩ := getS2 X hx hZ hown (host := "") (Or.inl w1) Via.refl eT F (g := mkF m pc Ls S) rfl (hb hby hd)
  exact own_go stp (k _ ⟨X', hx, hZ, hby, hml, hown, eT', N, hsz, hlk⟩)
theorem own_staK {C f d : String} {v : Value} (F : Sta Z h C f d v) (K : Keep h h' []) : Sta Z h' C f d v := by
  obtain ⟨cf, i, k, f', st, cell, h1, h2, h3, h4, h5, r⟩ := F
  exact ⟨cf, i, k, f', st, cell, h1, h2, h3, h4, K.2.1 _ _ h5 (fun q => nomatch q), r⟩
theorem own_putF (X : own_A l Z own cb ml n0 p e R s m args below meth c T h locs cells slots) {i kk : Nat} {a : Addr} {C f d : String} {v old : Value} {ty : FieldType} (w1 : (Jvm.Cond.fieldLink own i C f d).before a0 Z = true) (F : Fld Z h a C f d old) (E : Exa Z h a C) (L : (Jvm.Cond.lays C C f d).before a0 Z = true ∨ ((Jvm.Cond.laysFinal C C f d).before a0 Z = true ∧ own = C ∧ meth.name = "<init>")) (wi : (Jvm.Cond.instantiable C kk).before a0 Z = true)
    (hty : parseFieldDescriptor d = some ty) (hn : narrow ty v = v) (hft : fits ty v = true) (hg : n0 ≤ a) (hd : decode cb pc = .ok (.putfield i, 3)) (hp : pc + 3 = pc')
    (k : ∀ T' h' locs', own_A l Z own cb ml n0 p e R s m args below meth c T' h' locs' cells slots → Wr h h' a (Jvm.RoadKit.slotOf Z C f d) v → Fld Z h' a C f d v → own_E p e below G (T'.setTop (mkF m pc' Ls S))) : own_E p e below G (T.setTop (mkF m pc Ls (v :: .ref a :: S))) := by
  obtain ⟨X, hx, hZ, hby, hml, hown, eT, N, hsz, hlk⟩ := X
  subst hp
  obtain ⟨T', h', X', eT', W, stp⟩ := putF X hx hZ hown (host := "") (Or.inl w1) Via.refl eT F E L wi hty hn hft (g := mkF m pc Ls (v :: .ref a :: S)) rfl rfl (hb hby hd)
  exact own_go stp (k _ _ _ ⟨X', hx, hZ, hby, hml, hown, eT', Fr.snoc X' N hg, by rw [W.size]; exact hsz, hlk⟩ W (F.same W))
theorem own_putFN (X : own_A l Z own cb ml n0 p e R s m args below meth c T h locs cells slots) {i kk : Nat} {a : Addr} {C f d : String} {v v' old : Value} {ty : FieldType} (w1 : (Jvm.Cond.fieldLink own i C f d).before a0 Z = true) (F : Fld Z h a C f d old) (E : Exa Z h a C) (L : (Jvm.Cond.lays C C f d).before a0 Z = true ∨ ((Jvm.Cond.laysFinal C C f d).before a0 Z = true ∧ own = C ∧ meth.name = "<init>")) (wi : (Jvm.Cond.instantiable C kk).before a0 Z = true)
    (hty : parseFieldDescriptor d = some ty) (hn : narrow ty v = v') (hft : fits ty v' = true) (hg : n0 ≤ a) (hd : decode cb pc = .ok (.putfield i, 3)) (hp : pc + 3 = pc')
    (k : ∀ T' h' locs', own_A l Z own cb ml n0 p e R s m args below meth c T' h' locs' cells slots → Wr h h' a (Jvm.RoadKit.slotOf Z C f d) v' → Fld Z h' a C f d v' → own_E p e below G (T'.setTop (mkF m pc' Ls S))) : own_E p e below G (T.setTop (mkF m pc Ls (v :: .ref a :: S))) := by
  obtain ⟨X, hx, hZ, hby, hml, hown, eT, N, hsz, hlk⟩ := X
  subst hp
  obtain ⟨T', h', X', eT', W, stp⟩ := putFN X hx hZ hown w1 Via.refl eT F E L wi hty hn hft (g := mkF m pc Ls (v :: .ref a :: S)) rfl rfl (hb hby hd)
  exact own_go stp (k _ _ _ ⟨X', hx, hZ, hby, hml, hown, eT', Fr.snoc X' N hg, by rw [W.size]; exact hsz, hlk⟩ W (F.same W))
theorem own_new (X : own_A l Z own cb ml n0 p e R s m args below meth c T h locs cells slots) {i n : Nat} {C : String} (w1 : (Jvm.Cond.classLink own i C).before a0 Z = true) (w2 : (Jvm.Cond.instantiable C n).before a0 Z = true) (w3 : (Jvm.Cond.initialized C).before a0 Z = true) (hc : cells + 1 ≤ R.cells) (hs : slots + n ≤ R.slots)
    (hd : decode cb pc = .ok (.new i, 3)) (hp : pc + 3 = pc') (k : ∀ T' h' a, own_A l Z own cb ml n0 p e R s m args below meth c T' h' locs (cells + 1) (slots + n) → Ext h h' → h.size = a → n0 ≤ a → Exa Z h' a C → (∀ {O nm d : String} {ty : FieldType}, Laid Z a0 C O nm d → parseFieldDescriptor d = some ty → Fld Z h' a O nm d (defaultValue ty)) → own_E p e below G (T'.setTop (mkF m pc' Ls (.ref a :: S)))) : own_E p e below G (T.setTop (mkF m pc Ls S)) := by
  obtain ⟨X, hx, hZ, hby, hml, hown, eT, N, hsz, hlk⟩ := X
  subst hp
  obtain ⟨T', h', X', eT', E', A', D', -, stp⟩ := newO X hx hZ hown w1 w2 w3 eT (g := mkF m pc Ls S) rfl (hb hby hd) hc hs
  exact own_go stp (k _ _ _ ⟨X', hx, hZ, hby, hml, hown, eT', N, Nat.le_trans hsz E'.1, hlk⟩ E' rfl hsz A' D')
/-! arrays -/
def own_V (Z : State) (h : Heap) (a : Addr) (ty : FieldType) (z : Int32) (xs : List Int32) : Prop := ∃ k, Arv Z h a k ty z (xs.map Value.int) (.int 0) ∧ xs.length = z.toNatClampNeg
def own_W (Z : State) (h : Heap) (a : Addr) (z : Int32) (xs : List Int64) : Prop := ∃ k, Arv Z h a k .long z (xs.map Value.long) (.long 0) ∧ xs.length = z.toNatClampNeg
theorem own_V.ext {a : Addr} {ty : FieldType} {z : Int32} {xs : List Int32} (V : own_V Z h a ty z xs) (E : Ext h h') : own_V Z h' a ty z xs := by obtain ⟨k, A, q⟩ := V; exact ⟨k, A.ext E, q⟩
theorem own_W.ext {a : Addr} {z : Int32} {xs : List Int64} (V : own_W Z h a z xs) (E : Ext h h') : own_W Z h' a z xs := by obtain ⟨k, A, q⟩ := V; exact ⟨k, A.ext E, q⟩
theorem own_V.other {a b : Addr} {ty : FieldType} {z : Int32} {xs : List Int32} {sl : Nat} {v : Value} (V : own_V Z h a ty z xs) (W : Wr h h' b sl v) (q : a ≠ b) : own_V Z h' a ty z xs := by obtain ⟨k, A, r⟩ := V; exact ⟨k, A.other W q, r⟩
theorem own_W.other {a b : Addr} {z : Int32} {xs : List Int64} {sl : Nat} {v : Value} (V : own_W Z h a z xs) (W : Wr h h' b sl v) (q : a ≠ b) : own_W Z h' a z xs := by obtain ⟨k, A, r⟩ := V; exact ⟨k, A.other W q, r⟩
theorem own_V.keep {a : Addr} {ty : FieldType} {z : Int32} {xs : List Int32} {ws : List Addr} (V : own_V Z h a ty z xs) (K : Keep h h' ws) (q : a ∉ ws) : own_V Z h' a ty z xs := by obtain ⟨k, A, r⟩ := V; exact ⟨k, A.keep K q, r⟩
theorem own_W.keep {a : Addr} {z : Int32} {xs : List Int64} {ws : List Addr} (V : own_W Z h a z xs) (K : Keep h h' ws) (q : a ∉ ws) : own_W Z h' a z xs := by obtain ⟨k, A, r⟩ := V; exact ⟨k, A.keep K q, r⟩
theorem own_V.lt {a : Addr} {ty : FieldType} {z : Int32} {xs : List Int32} (V : own_V Z h a ty z xs) : a < h.size := by obtain ⟨k, A, r⟩ := V; exact A.lt
theorem own_W.lt {a : Addr} {z : Int32} {xs : List Int64} (V : own_W Z h a z xs) : a < h.size := by obtain ⟨k, A, r⟩ := V; exact A.lt
theorem own_V.len {a : Addr} {ty : FieldType} {z : Int32} {xs : List Int32} (V : own_V Z h a ty z xs) : xs.length = z.toNatClampNeg := by obtain ⟨k, A, r⟩ := V; exact r
theorem own_W.len {a : Addr} {z : Int32} {xs : List Int64} (V : own_W Z h a z xs) : xs.length = z.toNatClampNeg := by obtain ⟨k, A, r⟩ := V; exact r
theorem own_V.cast {a : Addr} {ty : FieldType} {z : Int32} {xs ys : List Int32} (V : own_V Z h a ty z xs) (q : xs = ys) : own_V Z h a ty z ys := q ▸ V
theorem own_W.cast {a : Addr} {z : Int32} {xs ys : List Int64} (V : own_W Z h a z xs) (q : xs = ys) : own_W Z h a z ys := q ▸ V
theorem own_cast (X : own_A l Z own cb ml n0 p e R s m args below meth c T h locs cells slots) {i : Nat} {a : Addr} {C : String} (w1 : (Jvm.Cond.classLink own i C).before a0 Z = true) (I : Ins Z h a C true)
    (hd : decode cb pc = .ok (.checkcast i, 3)) (hp : pc + 3 = pc') (k : ∀ T', own_A l Z own cb ml n0 p e R s m args below meth c T' h locs cells slots → own_E p e below G (T'.setTop (mkF m pc' Ls (.ref a :: S)))) : own_E p e below G (T.setTop (mkF m pc Ls (.ref a :: S))) := by
  obtain ⟨X, hx, hZ, hby, hml, hown, eT, N, hsz, hlk⟩ := X
  subst hp
  obtain ⟨T', X', eT', stp⟩ := castY X hx hZ hown w1 eT I (g := mkF m pc Ls (.ref a :: S)) rfl rfl (hb hby hd)
  exact own_go stp (k _ ⟨X', hx, hZ, hby, hml, hown, eT', N, hsz, hlk⟩)
theorem own_V.nn {a : Addr} {ty : FieldType} {z : Int32} {xs : List Int32} (V : own_V Z h a ty z xs) : ¬ z < 0 := by obtain ⟨k, ⟨cl, A, q1, q2, q3, r⟩, r'⟩ := V; exact q3
theorem own_idx {j z : Int32} {n : Nat} (q : n = z.toNatClampNeg) (h0 : ¬ j < 0) (h1 : j < z) : j.toNatClampNeg < n := by
  subst q
  rw [Int32.lt_iff_toInt_lt] at h0 h1
  have e0 : (0 : Int32).toInt = 0 := rfl
  simp only [Int32.toNatClampNeg]; omega
theorem own_mapI (xs : List Int32) (i : Nat) : (xs.map Value.int).getD i (.int 0) = .int (xs.getD i 0) := by
  simp only [List.getD_eq_getElem?_getD, List.getElem?_map]; cases xs[i]? <;> rfl
theorem own_mapL (xs : List Int64) (i : Nat) : (xs.map Value.long).getD i (.long 0) = .long (xs.getD i 0) := by
  simp only [List.getD_eq_getElem?_getD, List.getElem?_map]; cases xs[i]? <;> rfl
theorem own_newV (X : own_A l Z own cb ml n0 p e R s m args below meth c T h locs cells slots) {aty : ArrayType} {ty : FieldType} {n : Int32} (hty : newarray.typeOf aty = ty) (hdv : defaultValue ty = .int 0) (w : (Jvm.Cond.arrayClass ty).before a0 Z = true) (hn : ¬ n < 0) (cap : Nat) (hcap : n.toNatClampNeg ≤ cap) (hb8 : cap * 8 ≤ 536870912) (hc : cells + 1 ≤ R.cells) (hs : slots + cap ≤ R.slots)
    (hd : decode cb pc = .ok (.newarray aty, 2)) (hp : pc + 2 = pc') (k : ∀ T' h' a, own_A l Z own cb ml n0 p e R s m args below meth c T' h' locs (cells + 1) (slots + cap) → Ext h h' → h.size = a → n0 ≤ a → own_V Z h' a ty n (List.replicate n.toNatClampNeg 0) → own_E p e below G (T'.setTop (mkF m pc' Ls (.ref a :: S)))) : own_E p e below G (T.setTop (mkF m pc Ls (.int n :: S))) := by
  obtain ⟨X, hx, hZ, hby, hml, hown, eT, N, hsz, hlk⟩ := X
  subst hp; subst hty
  obtain ⟨T', h', cA, X', eT', E', A', stp⟩ := newP X hx hZ w eT (g := mkF m pc Ls (.int n :: S)) rfl (hb hby hd) rfl hn (cap := cap) hcap hb8 hc hs
  refine own_go stp (k _ _ _ ⟨X', hx, hZ, hby, hml, hown, eT', N, Nat.le_trans hsz E'.1, hlk⟩ E' rfl hsz ⟨cA, ?_, by simp⟩)
  have V := Arv.new A' hn
  rw [hdv] at V
  refine V.pad fun i => ?_
  rw [List.map_replicate]
  exact pad_rep [] (.int 0) n.toNatClampNeg i
theorem own_newW (X : own_A l Z own cb ml n0 p e R s m args below meth c T h locs cells slots) {n : Int32} (w : (Jvm.Cond.arrayClass .long).before a0 Z = true) (hn : ¬ n < 0) (cap : Nat) (hcap : n.toNatClampNeg ≤ cap) (hb8 : cap * 8 ≤ 536870912) (hc : cells + 1 ≤ R.cells) (hs : slots + cap ≤ R.slots)
    (hd : decode cb pc = .ok (.newarray .long, 2)) (hp : pc + 2 = pc') (k : ∀ T' h' a, own_A l Z own cb ml n0 p e R s m args below meth c T' h' locs (cells + 1) (slots + cap) → Ext h h' → h.size = a → n0 ≤ a → own_W Z h' a n (List.replicate n.toNatClampNeg 0) → own_E p e below G (T'.setTop (mkF m pc' Ls (.ref a :: S)))) : own_E p e below G (T.setTop (mkF m pc Ls (.int n :: S))) := by
  obtain ⟨X, hx, hZ, hby, hml, hown, eT, N, hsz, hlk⟩ := X
  subst hp
  obtain ⟨T', h', cA, X', eT', E', A', stp⟩ := newP X hx hZ (aty := .long) w eT (g := mkF m pc Ls (.int n :: S)) rfl (hb hby hd) rfl hn (cap := cap) hcap hb8 hc hs
  refine own_go stp (k _ _ _ ⟨X', hx, hZ, hby, hml, hown, eT', N, Nat.le_trans hsz E'.1, hlk⟩ E' rfl hsz ⟨cA, ?_, by simp⟩)
  have V := Arv.new A' hn
  refine V.pad fun i => ?_
  rw [List.map_replicate]
  exact pad_rep [] (.long 0) n.toNatClampNeg i
theorem own_bastore (X : own_A l Z own cb ml n0 p e R s m args below meth c T h locs cells slots) {a : Addr} {z j x y : Int32} {xs : List Int32} (V : own_V Z h a .byte z xs) (hg : n0 ≤ a) (hy : nar .byte x = y) (i : Nat) (hj : j.toNatClampNeg = i) (h0 : ¬ j < 0) (h1 : j < z)
    (hd : decode cb pc = .ok (.bastore, 1)) (hp : pc + 1 = pc') (k : ∀ T' h' locs', own_A l Z own cb ml n0 p e R s m args below meth c T' h' locs' cells slots → Wr h h' a j.toNatClampNeg (.int y) → own_V Z h' a .byte z (xs.set i y) → own_E p e below G (T'.setTop (mkF m pc' Ls S))) : own_E p e below G (T.setTop (mkF m pc Ls (.int x :: .int j :: .ref a :: S))) := by
  obtain ⟨X, hx, hZ, hby, hml, hown, eT, N, hsz, hlk⟩ := X
  obtain ⟨kc, ⟨cl, A, q1, q2, q3, H, F⟩, hlen⟩ := V
  subst hp; subst hy
  obtain ⟨T', h', X', eT', W, stp⟩ := stB X hx hZ eT A (j := j) (x := x) (inb_of q2 ⟨h0, h1⟩) (g := mkF m pc Ls (.int x :: .int j :: .ref a :: S)) rfl rfl (hb hby hd)
  refine own_go stp (k _ _ _ ⟨X', hx, hZ, hby, hml, hown, eT', Fr.snoc X' N hg, by rw [W.size]; exact hsz, hlk⟩ W ⟨kc, ?_, by rw [List.length_set]; exact hlen⟩)
  rw [List.map_set]
  exact Arv.set A q1 q2 q3 H F (fits_nar_byte _) W i hj (by rw [List.length_map, ← hj]; exact own_idx hlen h0 h1)
theorem own_iastore (X : own_A l Z own cb ml n0 p e R s m args below meth c T h locs cells slots) {a : Addr} {z j w x : Int32} {xs : List Int32} (V : own_V Z h a .int z xs) (hg : n0 ≤ a) (hy : w = x) (i : Nat) (hj : j.toNatClampNeg = i) (h0 : ¬ j < 0) (h1 : j < z)
    (hd : decode cb pc = .ok (.iastore, 1)) (hp : pc + 1 = pc') (k : ∀ T' h' locs', own_A l Z own cb ml n0 p e R s m args below meth c T' h' locs' cells slots → Wr h h' a j.toNatClampNeg (.int x) → own_V Z h' a .int z (xs.set i x) → own_E p e below G (T'.setTop (mkF m pc' Ls S))) : own_E p e below G (T.setTop (mkF m pc Ls (.int w :: .int j :: .ref a :: S))) := by
  obtain ⟨X, hx, hZ, hby, hml, hown, eT, N, hsz, hlk⟩ := X
  obtain ⟨kc, ⟨cl, A, q1, q2, q3, H, F⟩, hlen⟩ := V
  subst hp; subst hy
  obtain ⟨T', h', X', eT', W, stp⟩ := stI X hx hZ eT A (j := j) (x := w) (inb_of q2 ⟨h0, h1⟩) (g := mkF m pc Ls (.int w :: .int j :: .ref a :: S)) rfl rfl (hb hby hd)
  refine own_go stp (k _ _ _ ⟨X', hx, hZ, hby, hml, hown, eT', Fr.snoc X' N hg, by rw [W.size]; exact hsz, hlk⟩ W ⟨kc, ?_, by rw [List.length_set]; exact hlen⟩)
  rw [List.map_set]
  exact Arv.set A q1 q2 q3 H F rfl W i hj (by rw [List.length_map, ← hj]; exact own_idx hlen h0 h1)
theorem own_lastore (X : own_A l Z own cb ml n0 p e R s m args below meth c T h locs cells slots) {a : Addr} {z j : Int32} {w x : Int64} {xs : List Int64} (V : own_W Z h a z xs) (hg : n0 ≤ a) (hy : w = x) (i : Nat) (hj : j.toNatClampNeg = i) (h0 : ¬ j < 0) (h1 : j < z)
    (hd : decode cb pc = .ok (.lastore, 1)) (hp : pc + 1 = pc') (k : ∀ T' h' locs', own_A l Z own cb ml n0 p e R s m args below meth c T' h' locs' cells slots → Wr h h' a j.toNatClampNeg (.long x) → own_W Z h' a z (xs.set i x) → own_E p e below G (T'.setTop (mkF m pc' Ls S))) : own_E p e below G (T.setTop (mkF m pc Ls (.long w :: .int j :: .ref a :: S))) := by
  obtain ⟨X, hx, hZ, hby, hml, hown, eT, N, hsz, hlk⟩ := X
  obtain ⟨kc, ⟨cl, A, q1, q2, q3, H, F⟩, hlen⟩ := V
  subst hp; subst hy
  obtain ⟨T', h', X', eT', W, stp⟩ := stJ X hx hZ eT A (j := j) (x := w) (inb_of q2 ⟨h0, h1⟩) (g := mkF m pc Ls (.long w :: .int j :: .ref a :: S)) rfl rfl (hb hby hd)
  refine own_go stp (k _ _ _ ⟨X', hx, hZ, hby, hml, hown, eT', Fr.snoc X' N hg, by rw [W.size]; exact hsz, hlk⟩ W ⟨kc, ?_, by rw [List.length_set]; exact hlen⟩)
  rw [List.map_set]
  exact Arv.set A q1 q2 q3 H F rfl W i hj (by rw [List.length_map, ← hj]; exact own_idx hlen h0 h1)
theorem own_baload (X : own_A l Z own cb ml n0 p e R s m args below meth c T h locs cells slots) {a : Addr} {z j y : Int32} {xs : List Int32} (V : own_V Z h a .byte z xs) (h0 : ¬ j < 0) (h1 : j < z) (hy : xs.getD j.toNatClampNeg 0 = y) (hd : decode cb pc = .ok (.baload, 1)) (hp : pc + 1 = pc') (k : own_E p e below G (T.setTop (mkF m pc' Ls (.int y :: S)))) : own_E p e below G (T.setTop (mkF m pc Ls (.int j :: .ref a :: S))) := by
  obtain ⟨X, hx, hZ, hby, hml, hown, eT, N, hsz, hlk⟩ := X
  obtain ⟨kc, ⟨cl, A, q1, q2, q3, H, F⟩, hlen⟩ := V
  subst hp
  have hin := inb_of q2 (j := j) ⟨h0, h1⟩
  exact own_go (X.baloadBytes hx (j := j) (v := .int y) (by rw [eT]; exact A.1) (State.isArrayOf_alike hZ.alike A.2.1) A.2.2 hin (H.at hin (by rw [own_mapI, hy])) (g := mkF m pc Ls (.int j :: .ref a :: S)) rfl rfl (hb hby hd)) k
theorem own_iaload (X : own_A l Z own cb ml n0 p e R s m args below meth c T h locs cells slots) {a : Addr} {z j y : Int32} {xs : List Int32} (V : own_V Z h a .int z xs) (h0 : ¬ j < 0) (h1 : j < z) (hy : xs.getD j.toNatClampNeg 0 = y) (hd : decode cb pc = .ok (.iaload, 1)) (hp : pc + 1 = pc') (k : own_E p e below G (T.setTop (mkF m pc' Ls (.int y :: S)))) : own_E p e below G (T.setTop (mkF m pc Ls (.int j :: .ref a :: S))) := by
  obtain ⟨X, hx, hZ, hby, hml, hown, eT, N, hsz, hlk⟩ := X
  obtain ⟨kc, ⟨cl, A, q1, q2, q3, H, F⟩, hlen⟩ := V
  subst hp
  have hin := inb_of q2 (j := j) ⟨h0, h1⟩
  exact own_go (X.iaload hx (j := j) (v := .int y) (by rw [eT]; exact A.1) (State.isArrayOf_alike hZ.alike A.2.1) A.2.2 hin (H.at hin (by rw [own_mapI, hy])) (g := mkF m pc Ls (.int j :: .ref a :: S)) rfl rfl (hb hby hd)) k
theorem own_laload (X : own_A l Z own cb ml n0 p e R s m args below meth c T h locs cells slots) {a : Addr} {z j : Int32} {y : Int64} {xs : List Int64} (V : own_W Z h a z xs) (h0 : ¬ j < 0) (h1 : j < z) (hy : xs.getD j.toNatClampNeg 0 = y) (hd : decode cb pc = .ok (.laload, 1)) (hp : pc + 1 = pc') (k : own_E p e below G (T.setTop (mkF m pc' Ls (.long y :: S)))) : own_E p e below G (T.setTop (mkF m pc Ls (.int j :: .ref a :: S))) := by
  obtain ⟨X, hx, hZ, hby, hml, hown, eT, N, hsz, hlk⟩ := X
  obtain ⟨kc, ⟨cl, A, q1, q2, q3, H, F⟩, hlen⟩ := V
  subst hp
  have hin := inb_of q2 (j := j) ⟨h0, h1⟩
  exact own_go (X.laload hx (j := j) (v := .long y) (by rw [eT]; exact A.1) (State.isArrayOf_alike hZ.alike A.2.1) A.2.2 hin (H.at hin (by rw [own_mapL, hy])) (g := mkF m pc Ls (.int j :: .ref a :: S)) rfl rfl (hb hby hd)) k
theorem own_alen (X : own_A l Z own cb ml n0 p e R s m args below meth c T h locs cells slots) {a : Addr} {z : Int32} {ty : FieldType} {xs : List Int32} (V : own_V Z h a ty z xs) (hd : decode cb pc = .ok (.arraylength, 1)) (hp : pc + 1 = pc') (k : own_E p e below G (T.setTop (mkF m pc' Ls (.int z :: S)))) : own_E p e below G (T.setTop (mkF m pc Ls (.ref a :: S))) := by
  obtain ⟨X, hx, hZ, hby, hml, hown, eT, N, hsz, hlk⟩ := X
  obtain ⟨kc, ⟨cl, A, q1, q2, q3, H, F⟩, hlen⟩ := V
  subst hp
  refine own_go (X.arraylength hx (by rw [eT]; exact A.1) (State.isArrayOf_alike hZ.alike A.2.1) (g := mkF m pc Ls (.ref a :: S)) rfl rfl (hb hby hd)) ?_
  rw [len_of q2 q3]; exact k
end OwnKit
/-! OWN NUMBERS -/
theorem own_adL {a b : Int64} (h1 : -9223372036854775808 ≤ a.toInt + b.toInt) (h2 : a.toInt + b.toInt < 9223372036854775808) : (a + b).toInt = a.toInt + b.toInt := by
  rw [Int64.toInt_add]; exact Int.bmod_eq_of_le_mul_two (by omega) (by omega)
theorem own_sbL {a b : Int64} (h1 : -9223372036854775808 ≤ a.toInt - b.toInt) (h2 : a.toInt - b.toInt < 9223372036854775808) : (a - b).toInt = a.toInt - b.toInt := by
  rw [Int64.toInt_sub]; exact Int.bmod_eq_of_le_mul_two (by omega) (by omega)
theorem own_mlL {a b : Int64} (h1 : -9223372036854775808 ≤ a.toInt * b.toInt) (h2 : a.toInt * b.toInt < 9223372036854775808) : (a * b).toInt = a.toInt * b.toInt := by
  rw [Int64.toInt_mul]; exact Int.bmod_eq_of_le_mul_two (by omega) (by omega)
theorem own_ad {a b : Int32} (h1 : -2147483648 ≤ a.toInt + b.toInt) (h2 : a.toInt + b.toInt < 2147483648) : (a + b).toInt = a.toInt + b.toInt := by
  rw [Int32.toInt_add]; exact Int.bmod_eq_of_le_mul_two (by omega) (by omega)
theorem own_sb {a b : Int32} (h1 : -2147483648 ≤ a.toInt - b.toInt) (h2 : a.toInt - b.toInt < 2147483648) : (a - b).toInt = a.toInt - b.toInt := by
  rw [Int32.toInt_sub]; exact Int.bmod_eq_of_le_mul_two (by omega) (by omega)
theorem own_ml {a b : Int32} (h1 : -2147483648 ≤ a.toInt * b.toInt) (h2 : a.toInt * b.toInt < 2147483648) : (a * b).toInt = a.toInt * b.toInt := by
  rw [Int32.toInt_mul]; exact Int.bmod_eq_of_le_mul_two (by omega) (by omega)
theorem own_dvL {a b : Int64} (h0 : 0 ≤ a.toInt) (h1 : 0 < b.toInt) : (a / b).toInt = a.toInt / b.toInt := by
  rw [Int64.toInt_div, Int.tdiv_eq_ediv_of_nonneg h0]
  have := Int64.toInt_lt a
  have h2 : a.toInt / b.toInt ≤ a.toInt := Int.ediv_le_self _ h0
  have h3 : 0 ≤ a.toInt / b.toInt := Int.ediv_nonneg h0 (by omega)
  exact Int.bmod_eq_of_le_mul_two (by omega) (by omega)
theorem own_dv {a b : Int32} (h0 : 0 ≤ a.toInt) (h1 : 0 < b.toInt) : (a / b).toInt = a.toInt / b.toInt := by
  rw [Int32.toInt_div, Int.tdiv_eq_ediv_of_nonneg h0]
  have := Int32.toInt_lt a
  have h2 : a.toInt / b.toInt ≤ a.toInt := Int.ediv_le_self _ h0
  have h3 : 0 ≤ a.toInt / b.toInt := Int.ediv_nonneg h0 (by omega)
  exact Int.bmod_eq_of_le_mul_two (by omega) (by omega)
theorem own_rmL {a b : Int64} (h0 : 0 ≤ a.toInt) : (a % b).toInt = a.toInt % b.toInt := by
  rw [Int64.toInt_mod, Int.tmod_eq_emod_of_nonneg h0]
theorem own_rm {a b : Int32} (h0 : 0 ≤ a.toInt) : (a % b).toInt = a.toInt % b.toInt := by
  rw [Int32.toInt_mod, Int.tmod_eq_emod_of_nonneg h0]
theorem own_ltL {a b : Int64} : a < b ↔ a.toInt < b.toInt := Int64.lt_iff_toInt_lt
theorem own_lt {a b : Int32} : a < b ↔ a.toInt < b.toInt := Int32.lt_iff_toInt_lt
theorem own_eqL {a b : Int64} : a = b ↔ a.toInt = b.toInt := Int64.toInt_inj.symm
theorem own_eq {a b : Int32} : a = b ↔ a.toInt = b.toInt := Int32.toInt_inj.symm
theorem own_mkL {a b : Int64} {k : Nat} (hk : k < 64) (hb : b.toBitVec.toNat = 2 ^ k - 1) : (a &&& b).toInt = a.toInt % (2 ^ k : Nat) := by
  have e : (a &&& b).toBitVec.toNat = a.toBitVec.toNat % 2 ^ k := by rw [Int64.toBitVec_and, BitVec.toNat_and, hb, Nat.and_two_pow_sub_one_eq_mod]
  have hlt : a.toBitVec.toNat % 2 ^ k < 2 ^ 63 := Nat.lt_of_lt_of_le (Nat.mod_lt _ (Nat.two_pow_pos k)) (Nat.pow_le_pow_right (by decide) (by omega))
  have e2 : (a &&& b).toInt = ((a.toBitVec.toNat % 2 ^ k : Nat) : Int) := by
    show (a &&& b).toBitVec.toInt = _
    rw [BitVec.toInt_eq_toNat_cond, e, if_pos (by omega)]
  rw [e2]
  show _ = a.toBitVec.toInt % _
  rw [BitVec.toInt_eq_toNat_cond]
  have hd : ((2 ^ 64 : Nat) : Int) % ((2 ^ k : Nat) : Int) = 0 := by
    rw [← Int.natCast_emod, Nat.mod_eq_zero_of_dvd (Nat.pow_dvd_pow 2 (by omega))]; rfl
  split
  · rw [Int.natCast_emod]
  · rw [Int.sub_emod, hd, Int.sub_zero, Int.emod_emod_of_dvd _ (Int.dvd_refl _), Int.natCast_emod]
theorem own_mk {a b : Int32} {k : Nat} (hk : k < 32) (hb : b.toBitVec.toNat = 2 ^ k - 1) : (a &&& b).toInt = a.toInt % (2 ^ k : Nat) := by
  have e : (a &&& b).toBitVec.toNat = a.toBitVec.toNat % 2 ^ k := by rw [Int32.toBitVec_and, BitVec.toNat_and, hb, Nat.and_two_pow_sub_one_eq_mod]
  have hlt : a.toBitVec.toNat % 2 ^ k < 2 ^ 31 := Nat.lt_of_lt_of_le (Nat.mod_lt _ (Nat.two_pow_pos k)) (Nat.pow_le_pow_right (by decide) (by omega))
  have e2 : (a &&& b).toInt = ((a.toBitVec.toNat % 2 ^ k : Nat) : Int) := by
    show (a &&& b).toBitVec.toInt = _
    rw [BitVec.toInt_eq_toNat_cond, e, if_pos (by omega)]
  rw [e2]
  show _ = a.toBitVec.toInt % _
  rw [BitVec.toInt_eq_toNat_cond]
  have hd : ((2 ^ 32 : Nat) : Int) % ((2 ^ k : Nat) : Int) = 0 := by
    rw [← Int.natCast_emod, Nat.mod_eq_zero_of_dvd (Nat.pow_dvd_pow 2 (by omega))]; rfl
  split
  · rw [Int.natCast_emod]
  · rw [Int.sub_emod, hd, Int.sub_zero, Int.emod_emod_of_dvd _ (Int.dvd_refl _), Int.natCast_emod]
theorem own_AL {a b : Int64} {x y : Int} (ha : a.toInt = x) (hb : b.toInt = y) (h1 : -9223372036854775808 ≤ x + y) (h2 : x + y < 9223372036854775808) : (a + b).toInt = x + y := by subst ha hb; exact own_adL h1 h2
theorem own_SL {a b : Int64} {x y : Int} (ha : a.toInt = x) (hb : b.toInt = y) (h1 : -9223372036854775808 ≤ x - y) (h2 : x - y < 9223372036854775808) : (a - b).toInt = x - y := by subst ha hb; exact own_sbL h1 h2
theorem own_ML {a b : Int64} {x y : Int} (ha : a.toInt = x) (hb : b.toInt = y) (h1 : -9223372036854775808 ≤ x * y) (h2 : x * y < 9223372036854775808) : (a * b).toInt = x * y := by subst ha hb; exact own_mlL h1 h2
theorem own_DL {a b : Int64} {x y : Int} (ha : a.toInt = x) (hb : b.toInt = y) (h1 : 0 ≤ x) (h2 : 0 < y) : (a / b).toInt = x / y := by subst ha hb; exact own_dvL h1 h2
theorem own_RL {a b : Int64} {x y : Int} (ha : a.toInt = x) (hb : b.toInt = y) (h1 : 0 ≤ x) : (a % b).toInt = x % y := by subst ha hb; exact own_rmL h1
theorem own_AI {a b : Int32} {x y : Int} (ha : a.toInt = x) (hb : b.toInt = y) (h1 : -2147483648 ≤ x + y) (h2 : x + y < 2147483648) : (a + b).toInt = x + y := by subst ha hb; exact own_ad h1 h2
theorem own_SI {a b : Int32} {x y : Int} (ha : a.toInt = x) (hb : b.toInt = y) (h1 : -2147483648 ≤ x - y) (h2 : x - y < 2147483648) : (a - b).toInt = x - y := by subst ha hb; exact own_sb h1 h2
theorem own_MI {a b : Int32} {x y : Int} (ha : a.toInt = x) (hb : b.toInt = y) (h1 : -2147483648 ≤ x * y) (h2 : x * y < 2147483648) : (a * b).toInt = x * y := by subst ha hb; exact own_ml h1 h2
theorem own_DI {a b : Int32} {x y : Int} (ha : a.toInt = x) (hb : b.toInt = y) (h1 : 0 ≤ x) (h2 : 0 < y) : (a / b).toInt = x / y := by subst ha hb; exact own_dv h1 h2
theorem own_RI {a b : Int32} {x y : Int} (ha : a.toInt = x) (hb : b.toInt = y) (h1 : 0 ≤ x) : (a % b).toInt = x % y := by subst ha hb; exact own_rm h1
theorem own_pos {z : Int32} (h : ¬ z < 0) (h1 : ¬ z = 0) : (0 : Int32) < z := by
  have e0 : (0 : Int32).toInt = 0 := rfl
  rw [own_lt] at *; rw [own_eq] at h1; omega
theorem own_last {z : Int32} (h : (0 : Int32) < z) : ¬ z - 1 < 0 ∧ z - 1 < z := by
  have e0 : (0 : Int32).toInt = 0 := rfl
  have e1 : (1 : Int32).toInt = 1 := rfl
  have hl := Int32.toInt_lt z
  rw [own_lt] at h
  have a : (z - 1).toInt = z.toInt - 1 := own_SI rfl e1 (by omega) (by omega)
  rw [own_lt, own_lt]; omega
theorem own_gs {α : Type} (l : List α) (i j : Nat) (v d : α) (hi : i < l.length) : (l.set i v).getD j d = if i = j then v else l.getD j d := by
  simp only [List.getD_eq_getElem?_getD]
  by_cases h : i = j
  · subst h; rw [if_pos rfl, List.getElem?_set_self hi]; rfl
  · rw [if_neg h, List.getElem?_set_ne h]
theorem own_cl {n : Int32} {k : Int} (h : n.toInt = k) : n.toNatClampNeg = k.toNat := by subst h; rfl
theorem own_b8 {t : Int32} (h0 : -128 ≤ t.toInt) (h1 : t.toInt < 128) : t.toInt8.toInt32 = t := by
  rw [own_eq, Int8.toInt_toInt32, Int32.toInt_toInt8]
  exact Int.bmod_eq_of_le_mul_two (by omega) (by omega)
theorem own_i8 {t : Int32} {x : Int} (h : t.toInt = x) : (t.toInt8.toInt32).toInt = (x + 128) % 256 - 128 := by
  subst h
  rw [Int8.toInt_toInt32, Int32.toInt_toInt8, Int.bmod_def]
  split <;> omega
theorem own_shrI {a b : Int32} {x : Int} {k : Nat} (h : a.toInt = x) (hb : (b.toBitVec.smod (BitVec.ofNat 32 32)).toNat = k) : (a >>> b).toInt = x / (2 ^ k : Nat) := by
  subst h; subst hb
  show (a.toBitVec.sshiftRight' (b.toBitVec.smod (BitVec.ofNat 32 32))).toInt = _
  rw [BitVec.toInt_sshiftRight', Int.shiftRight_eq_div_pow]; rfl
theorem own_shlI {a b : Int32} {x : Int} {k : Nat} (h : a.toInt = x) (hb : (b.toBitVec.smod (BitVec.ofNat 32 32)).toNat = k) (h1 : -2147483648 ≤ x * (2 ^ k : Nat)) (h2 : x * (2 ^ k : Nat) < 2147483648) : (a <<< b).toInt = x * (2 ^ k : Nat) := by
  subst h; subst hb
  show (a.toBitVec <<< (b.toBitVec.smod (BitVec.ofNat 32 32))).toInt = a.toBitVec.toInt * _
  rw [BitVec.shiftLeft_eq', BitVec.toInt_shiftLeft, Nat.shiftLeft_eq, BitVec.toInt_eq_toNat_bmod]
  rw [show ((a.toBitVec.toNat * 2 ^ (b.toBitVec.smod (BitVec.ofNat 32 32)).toNat : Nat) : Int) = (a.toBitVec.toNat : Int) * ((2 ^ (b.toBitVec.smod (BitVec.ofNat 32 32)).toNat : Nat) : Int) from by simp]
  rw [← Int.bmod_mul_bmod]
  have e : ((a.toBitVec.toNat : Int).bmod (2 ^ 32)) = a.toInt := (BitVec.toInt_eq_toNat_bmod _).symm
  rw [e]
  exact Int.bmod_eq_of_le_mul_two (by omega) (by omega)
theorem own_orI {a b : Int32} {x y : Int} (k : Nat) (ha : a.toInt = x) (hb : b.toInt = y) (hk : k ≤ 31) (hx : x % (2 ^ k : Nat) = 0) (h0 : 0 ≤ y) (h1 : y < (2 ^ k : Nat)) (h2 : 0 ≤ x) : (a ||| b).toInt = x + y := by
  have la := a.toBitVec.isLt; have lb := b.toBitVec.isLt
  have na : (a.toBitVec.toNat : Int) = x := by
    have : a.toBitVec.toInt = x := ha
    rw [BitVec.toInt_eq_toNat_cond] at this; split at this <;> omega
  have nb : (b.toBitVec.toNat : Int) = y := by
    have : b.toBitVec.toInt = y := hb
    rw [BitVec.toInt_eq_toNat_cond] at this; split at this <;> omega
  have hm : a.toBitVec.toNat % 2 ^ k = 0 := by
    have : ((a.toBitVec.toNat % 2 ^ k : Nat) : Int) = 0 := by rw [Int.natCast_emod, na]; exact hx
    omega
  have hl : b.toBitVec.toNat < 2 ^ k := by omega
  have ho : a.toBitVec.toNat ||| b.toBitVec.toNat = a.toBitVec.toNat + b.toBitVec.toNat := by
    have hd : a.toBitVec.toNat = 2 ^ k * (a.toBitVec.toNat / 2 ^ k) := by
      have := Nat.div_add_mod a.toBitVec.toNat (2 ^ k); omega
    rw [hd, Nat.two_pow_add_eq_or_of_lt hl]
  have q : (a ||| b).toBitVec.toNat = a.toBitVec.toNat + b.toBitVec.toNat := by rw [Int32.toBitVec_or, BitVec.toNat_or, ho]
  have hA : a.toBitVec.toNat < 2 ^ 31 := by
    have : a.toBitVec.toInt = x := ha
    rw [BitVec.toInt_eq_toNat_cond] at this; split at this <;> omega
  have hB : b.toBitVec.toNat < 2 ^ 31 := by
    have : b.toBitVec.toInt = y := hb
    rw [BitVec.toInt_eq_toNat_cond] at this; split at this <;> omega
  have hS : a.toBitVec.toNat + b.toBitVec.toNat < 2 ^ 31 := by rw [← ho]; exact Nat.or_lt_two_pow hA hB
  show (a ||| b).toBitVec.toInt = _
  rw [BitVec.toInt_eq_toNat_cond, q, if_pos (by omega)]
  omega
theorem own_yes {c : Prop} [d : Decidable c] {a b r : Int32} (h : c) (h2 : a = r) : (if c then a else b) = r := (if_pos h).trans h2
theorem own_no {c : Prop} [d : Decidable c] {a b r : Int32} (h : ¬ c) (h2 : b = r) : (if c then a else b) = r := (if_neg h).trans h2
/-! OWN WORDS: 64-bit words as natural numbers -/
def own_U (v : Int64) : Nat := v.toBitVec.toNat
theorem own_U_lt (v : Int64) : own_U v < 18446744073709551616 := v.toBitVec.isLt
theorem own_U_inj {a b : Int64} (h : own_U a = own_U b) : a = b := Int64.toBitVec_inj.mp (BitVec.eq_of_toNat_eq h)
theorem own_U_add (a b : Int64) : own_U (a + b) = (own_U a + own_U b) % 18446744073709551616 := by
  show (a + b).toBitVec.toNat = _
  rw [Int64.toBitVec_add, BitVec.toNat_add]; rfl
theorem own_U_sub (a b : Int64) : own_U (a - b) = (18446744073709551616 - own_U b + own_U a) % 18446744073709551616 := by
  show (a - b).toBitVec.toNat = _
  rw [Int64.toBitVec_sub, BitVec.toNat_sub]; rfl
theorem own_U_lo (v : Int64) : own_U (v &&& (4294967295 : Int64)) = own_U v % 4294967296 := by
  show (v &&& (4294967295 : Int64)).toBitVec.toNat = _
  rw [Int64.toBitVec_and, BitVec.toNat_and]
  exact Nat.and_two_pow_sub_one_eq_mod v.toBitVec.toNat 32
theorem own_U_hi (v : Int64) : own_U ((v.toUInt64 >>> (32 : UInt64)).toInt64) = own_U v / 4294967296 := by
  show (v.toBitVec >>> 32).toNat = _
  rw [BitVec.toNat_ushiftRight, Nat.shiftRight_eq_div_pow]; rfl
theorem own_U_int (v : Int64) : v.toInt = if own_U v < 9223372036854775808 then (own_U v : Int) else (own_U v : Int) - 18446744073709551616 := by
  show v.toBitVec.toInt = _
  rw [BitVec.toInt_eq_toNat_cond]
  show (if 2 * own_U v < 2 ^ 64 then (own_U v : Int) else (own_U v : Int) - (2 ^ 64 : Nat)) = _
  split <;> split <;> omega
theorem own_d1_0 : decode method_2_code 0 = .ok (.lload_n 0, 1) := by decide +kernel
theorem own_d1_1 : decode method_2_code 1 = .ok (.iconst 2, 1) := by decide +kernel
theorem own_d1_2 : decode method_2_code 2 = .ok (.iload_n 2, 1) := by decide +kernel
theorem own_d1_3 : decode method_2_code 3 = .ok (.imul, 1) := by decide +kernel
theorem own_d1_4 : decode method_2_code 4 = .ok (.lushr, 1) := by decide +kernel
theorem own_d1_5 : decode method_2_code 5 = .ok (.ldc2_w 7, 3) := by decide +kernel
theorem own_d1_8 : decode method_2_code 8 = .ok (.land, 1) := by decide +kernel
theorem own_d1_9 : decode method_2_code 9 = .ok (.l2i, 1) := by decide +kernel
theorem own_d1_10 : decode method_2_code 10 = .ok (.istore 11, 2) := by decide +kernel
theorem own_d1_12 : decode method_2_code 12 = .ok (.iload 11, 2) := by decide +kernel
theorem own_d1_14 : decode method_2_code 14 = .ok (.ifCond .ne 5, 3) := by decide +kernel
theorem own_d1_17 : decode method_2_code 17 = .ok (.lload_n 3, 1) := by decide +kernel
theorem own_d1_18 : decode method_2_code 18 = .ok (.lreturn, 1) := by decide +kernel
theorem own_d1_19 : decode method_2_code 19 = .ok (.iload 11, 2) := by decide +kernel
theorem own_d1_21 : decode method_2_code 21 = .ok (.iconst 1, 1) := by decide +kernel
theorem own_d1_22 : decode method_2_code 22 = .ok (.if_icmp .ne 6, 3) := by decide +kernel
theorem own_d1_25 : decode method_2_code 25 = .ok (.lload 5, 2) := by decide +kernel
theorem own_d1_27 : decode method_2_code 27 = .ok (.lreturn, 1) := by decide +kernel
theorem own_d1_28 : decode method_2_code 28 = .ok (.iload 11, 2) := by decide +kernel
theorem own_d1_30 : decode method_2_code 30 = .ok (.iconst 2, 1) := by decide +kernel
theorem own_d1_31 : decode method_2_code 31 = .ok (.if_icmp .ne 6, 3) := by decide +kernel
theorem own_d1_34 : decode method_2_code 34 = .ok (.lload 7, 2) := by decide +kernel
theorem own_d1_36 : decode method_2_code 36 = .ok (.lreturn, 1) := by decide +kernel
theorem own_d1_37 : decode method_2_code 37 = .ok (.lload 9, 2) := by decide +kernel
theorem own_d1_39 : decode method_2_code 39 = .ok (.lreturn, 1) := by decide +kernel
theorem own_ef1 (q1 : Int64) (p2 : Int32) (q3 : Int64) (q4 : Int64) (q5 : Int64) (q6 : Int64) (m : MethodId) : entryFrame m #[(.long q1), (.int p2), (.long q3), (.long q4), (.long q5), (.long q6)] 12 = mkF m 0 #[.val (.long q1), .second, .val (.int p2), .val (.long q3), .second, .val (.long q4), .second, .val (.long q5), .second, .val (.long q6), .second, .unset] [] := by first | (simp [entryFrame, mkF, argsToLocals, Value.category]; done) | rfl
theorem own_pf1 : plainFor (⟨"marketmint/Words256SubtractPinLaw", "pick", "(JIJJJJ)J"⟩ : MethodName) = true := by first | exact plainFor_of_name (by first | (simp [plainName, overriddenIn]; done) | decide +kernel) | decide +kernel
def own_v1_10 (q1 : Int64) (p2 : Int32) : Int32 := ((((q1.toUInt64 >>> (((2 : Int32) * p2) &&& 0x3f).toInt64.toUInt64).toInt64) &&& (3 : Int64)).toInt32)
def own_F1 (q1 : Int64) (p2 : Int32) (q3 : Int64) (q4 : Int64) (q5 : Int64) (q6 : Int64) : Int64 := (if (own_v1_10 q1 p2) = (0 : Int32) then q3 else (if (own_v1_10 q1 p2) = (1 : Int32) then q4 else (if (own_v1_10 q1 p2) = (2 : Int32) then q5 else q6)))
set_option maxRecDepth 65536 in
set_option maxHeartbeats 40000000 in
theorem own_rm1 (l : Launch) (Z : State) (a0 : Array Value) (hw : ∀ d ∈ tables_1, d.before a0 Z = true) (q1 : Int64) (p2 : Int32) (q3 : Int64) (q4 : Int64) (q5 : Int64) (q6 : Int64) (h0 : Heap) (n0 : Nat) (Z0 : n0 ≤ h0.size) :
    own_Con l Z (⟨"marketmint/Words256SubtractPinLaw", "pick", "(JIJJJJ)J"⟩ : MethodName) method_2_code 12 (some .long) ({ frames := 0, cells := 0, slots := 0, locals := 0 } : Room) #[(.long q1), (.int p2), (.long q3), (.long q4), (.long q5), (.long q6)] h0 n0 (fun v h => v = some (.long (own_F1 q1 p2 q3 q4 q5 q6)) ∧ h = h0) := by
  refine own_enter own_pf1 Z0 (own_ef1 q1 p2 q3 q4 q5 q6) ?_
  intro p e s m below meth c T0 X0 hret hnm
  refine own_lloadN X0 own_d1_0 (pc' := 1) rfl (v := q1) rfl ?_
  refine own_iconst X0 own_d1_1 (pc' := 2) rfl (z := (2 : Int32)) rfl ?_
  refine own_iloadN X0 own_d1_2 (pc' := 3) rfl (v := p2) rfl ?_
  refine own_imul X0 own_d1_3 (pc' := 4) rfl (z := ((2 : Int32) * p2)) rfl ?_
  refine own_lushr X0 own_d1_4 (pc' := 5) rfl (z := ((q1.toUInt64 >>> (((2 : Int32) * p2) &&& 0x3f).toInt64.toUInt64).toInt64)) rfl ?_
  refine own_ldc2 X0 (hw _ (List.mem_of_getElem? (i := 6) rfl)) own_d1_5 (pc' := 8) rfl ?_
  refine own_land X0 own_d1_8 (pc' := 9) rfl (z := (((q1.toUInt64 >>> (((2 : Int32) * p2) &&& 0x3f).toInt64.toUInt64).toInt64) &&& (3 : Int64))) rfl ?_
  refine own_l2i X0 own_d1_9 (pc' := 10) rfl (z := ((((q1.toUInt64 >>> (((2 : Int32) * p2) &&& 0x3f).toInt64.toUInt64).toInt64) &&& (3 : Int64)).toInt32)) rfl ?_
  refine own_istore X0 own_d1_10 (pc' := 12) rfl (y := (own_v1_10 q1 p2)) rfl (Ls' := #[.val (.long q1), .second, .val (.int p2), .val (.long q3), .second, .val (.long q4), .second, .val (.long q5), .second, .val (.long q6), .second, .val (.int (own_v1_10 q1 p2))]) rfl ?_
  refine own_iload X0 own_d1_12 (pc' := 14) rfl (v := (own_v1_10 q1 p2)) rfl ?_
  by_cases hc1 : (own_v1_10 q1 p2) = (0 : Int32)
  · refine own_ifN X0 own_d1_14 (teq hc1).2 (pc' := 17) rfl ?_
    refine own_lloadN X0 own_d1_17 (pc' := 18) rfl (v := q3) rfl ?_
    refine own_lret X0 hret own_d1_18 (by decide) (by decide) ?_
    exact ⟨congrArg (fun t => some (Value.long t)) (show q3 = own_F1 q1 p2 q3 q4 q5 q6 from (by rw [own_F1, if_pos hc1])), rfl⟩
  · refine own_ifY X0 own_d1_14 (feq hc1).2 (by decide) (pc' := 19) rfl ?_
    refine own_iload X0 own_d1_19 (pc' := 21) rfl (v := (own_v1_10 q1 p2)) rfl ?_
    refine own_iconst X0 own_d1_21 (pc' := 22) rfl (z := (1 : Int32)) rfl ?_
    by_cases hc2 : (own_v1_10 q1 p2) = (1 : Int32)
    · refine own_icmpN X0 own_d1_22 (teq hc2).2 (pc' := 25) rfl ?_
      refine own_lload X0 own_d1_25 (pc' := 27) rfl (v := q4) rfl ?_
      refine own_lret X0 hret own_d1_27 (by decide) (by decide) ?_
      exact ⟨congrArg (fun t => some (Value.long t)) (show q4 = own_F1 q1 p2 q3 q4 q5 q6 from (by rw [own_F1, if_neg hc1, if_pos hc2])), rfl⟩
    · refine own_icmpY X0 own_d1_22 (feq hc2).2 (by decide) (pc' := 28) rfl ?_
      refine own_iload X0 own_d1_28 (pc' := 30) rfl (v := (own_v1_10 q1 p2)) rfl ?_
      refine own_iconst X0 own_d1_30 (pc' := 31) rfl (z := (2 : Int32)) rfl ?_
      by_cases hc3 : (own_v1_10 q1 p2) = (2 : Int32)
      · refine own_icmpN X0 own_d1_31 (teq hc3).2 (pc' := 34) rfl ?_
        refine own_lload X0 own_d1_34 (pc' := 36) rfl (v := q5) rfl ?_
        refine own_lret X0 hret own_d1_36 (by decide) (by decide) ?_
        exact ⟨congrArg (fun t => some (Value.long t)) (show q5 = own_F1 q1 p2 q3 q4 q5 q6 from (by rw [own_F1, if_neg hc1, if_neg hc2, if_pos hc3])), rfl⟩
      · refine own_icmpY X0 own_d1_31 (feq hc3).2 (by decide) (pc' := 37) rfl ?_
        refine own_lload X0 own_d1_37 (pc' := 39) rfl (v := q6) rfl ?_
        refine own_lret X0 hret own_d1_39 (by decide) (by decide) ?_
        exact ⟨congrArg (fun t => some (Value.long t)) (show q6 = own_F1 q1 p2 q3 q4 q5 q6 from (by rw [own_F1, if_neg hc1, if_neg hc2, if_neg hc3])), rfl⟩
theorem own_d2_0 : decode prog_96_method_3_code 0 = .ok (.aload_n 1, 1) := by decide +kernel
theorem own_d2_1 : decode prog_96_method_3_code 1 = .ok (.iconst 0, 1) := by decide +kernel
theorem own_d2_2 : decode prog_96_method_3_code 2 = .ok (.laload, 1) := by decide +kernel
theorem own_d2_3 : decode prog_96_method_3_code 3 = .ok (.aload_n 2, 1) := by decide +kernel
theorem own_d2_4 : decode prog_96_method_3_code 4 = .ok (.iconst 0, 1) := by decide +kernel
theorem own_d2_5 : decode prog_96_method_3_code 5 = .ok (.laload, 1) := by decide +kernel
theorem own_d2_6 : decode prog_96_method_3_code 6 = .ok (.lsub, 1) := by decide +kernel
theorem own_d2_7 : decode prog_96_method_3_code 7 = .ok (.lstore_n 3, 1) := by decide +kernel
theorem own_d2_8 : decode prog_96_method_3_code 8 = .ok (.aload_n 0, 1) := by decide +kernel
theorem own_d2_9 : decode prog_96_method_3_code 9 = .ok (.iconst 0, 1) := by decide +kernel
theorem own_d2_10 : decode prog_96_method_3_code 10 = .ok (.lload_n 3, 1) := by decide +kernel
theorem own_d2_11 : decode prog_96_method_3_code 11 = .ok (.ldc2_w 9, 3) := by decide +kernel
theorem own_d2_14 : decode prog_96_method_3_code 14 = .ok (.land, 1) := by decide +kernel
theorem own_d2_15 : decode prog_96_method_3_code 15 = .ok (.lastore, 1) := by decide +kernel
theorem own_d2_16 : decode prog_96_method_3_code 16 = .ok (.lload_n 3, 1) := by decide +kernel
theorem own_d2_17 : decode prog_96_method_3_code 17 = .ok (.bipush 32, 2) := by decide +kernel
theorem own_d2_19 : decode prog_96_method_3_code 19 = .ok (.lshr, 1) := by decide +kernel
theorem own_d2_20 : decode prog_96_method_3_code 20 = .ok (.aload_n 1, 1) := by decide +kernel
theorem own_d2_21 : decode prog_96_method_3_code 21 = .ok (.iconst 1, 1) := by decide +kernel
theorem own_d2_22 : decode prog_96_method_3_code 22 = .ok (.laload, 1) := by decide +kernel
theorem own_d2_23 : decode prog_96_method_3_code 23 = .ok (.ladd, 1) := by decide +kernel
theorem own_d2_24 : decode prog_96_method_3_code 24 = .ok (.aload_n 2, 1) := by decide +kernel
theorem own_d2_25 : decode prog_96_method_3_code 25 = .ok (.iconst 1, 1) := by decide +kernel
theorem own_d2_26 : decode prog_96_method_3_code 26 = .ok (.laload, 1) := by decide +kernel
theorem own_d2_27 : decode prog_96_method_3_code 27 = .ok (.lsub, 1) := by decide +kernel
theorem own_d2_28 : decode prog_96_method_3_code 28 = .ok (.lstore_n 3, 1) := by decide +kernel
theorem own_d2_29 : decode prog_96_method_3_code 29 = .ok (.aload_n 0, 1) := by decide +kernel
theorem own_d2_30 : decode prog_96_method_3_code 30 = .ok (.iconst 1, 1) := by decide +kernel
theorem own_d2_31 : decode prog_96_method_3_code 31 = .ok (.lload_n 3, 1) := by decide +kernel
theorem own_d2_32 : decode prog_96_method_3_code 32 = .ok (.ldc2_w 9, 3) := by decide +kernel
theorem own_d2_35 : decode prog_96_method_3_code 35 = .ok (.land, 1) := by decide +kernel
theorem own_d2_36 : decode prog_96_method_3_code 36 = .ok (.lastore, 1) := by decide +kernel
theorem own_d2_37 : decode prog_96_method_3_code 37 = .ok (.lload_n 3, 1) := by decide +kernel
theorem own_d2_38 : decode prog_96_method_3_code 38 = .ok (.bipush 32, 2) := by decide +kernel
theorem own_d2_40 : decode prog_96_method_3_code 40 = .ok (.lshr, 1) := by decide +kernel
theorem own_d2_41 : decode prog_96_method_3_code 41 = .ok (.aload_n 1, 1) := by decide +kernel
theorem own_d2_42 : decode prog_96_method_3_code 42 = .ok (.iconst 2, 1) := by decide +kernel
theorem own_d2_43 : decode prog_96_method_3_code 43 = .ok (.laload, 1) := by decide +kernel
theorem own_d2_44 : decode prog_96_method_3_code 44 = .ok (.ladd, 1) := by decide +kernel
theorem own_d2_45 : decode prog_96_method_3_code 45 = .ok (.aload_n 2, 1) := by decide +kernel
theorem own_d2_46 : decode prog_96_method_3_code 46 = .ok (.iconst 2, 1) := by decide +kernel
theorem own_d2_47 : decode prog_96_method_3_code 47 = .ok (.laload, 1) := by decide +kernel
theorem own_d2_48 : decode prog_96_method_3_code 48 = .ok (.lsub, 1) := by decide +kernel
theorem own_d2_49 : decode prog_96_method_3_code 49 = .ok (.lstore_n 3, 1) := by decide +kernel
theorem own_d2_50 : decode prog_96_method_3_code 50 = .ok (.aload_n 0, 1) := by decide +kernel
theorem own_d2_51 : decode prog_96_method_3_code 51 = .ok (.iconst 2, 1) := by decide +kernel
theorem own_d2_52 : decode prog_96_method_3_code 52 = .ok (.lload_n 3, 1) := by decide +kernel
theorem own_d2_53 : decode prog_96_method_3_code 53 = .ok (.ldc2_w 9, 3) := by decide +kernel
theorem own_d2_56 : decode prog_96_method_3_code 56 = .ok (.land, 1) := by decide +kernel
theorem own_d2_57 : decode prog_96_method_3_code 57 = .ok (.lastore, 1) := by decide +kernel
theorem own_d2_58 : decode prog_96_method_3_code 58 = .ok (.lload_n 3, 1) := by decide +kernel
theorem own_d2_59 : decode prog_96_method_3_code 59 = .ok (.bipush 32, 2) := by decide +kernel
theorem own_d2_61 : decode prog_96_method_3_code 61 = .ok (.lshr, 1) := by decide +kernel
theorem own_d2_62 : decode prog_96_method_3_code 62 = .ok (.aload_n 1, 1) := by decide +kernel
theorem own_d2_63 : decode prog_96_method_3_code 63 = .ok (.iconst 3, 1) := by decide +kernel
theorem own_d2_64 : decode prog_96_method_3_code 64 = .ok (.laload, 1) := by decide +kernel
theorem own_d2_65 : decode prog_96_method_3_code 65 = .ok (.ladd, 1) := by decide +kernel
theorem own_d2_66 : decode prog_96_method_3_code 66 = .ok (.aload_n 2, 1) := by decide +kernel
theorem own_d2_67 : decode prog_96_method_3_code 67 = .ok (.iconst 3, 1) := by decide +kernel
theorem own_d2_68 : decode prog_96_method_3_code 68 = .ok (.laload, 1) := by decide +kernel
theorem own_d2_69 : decode prog_96_method_3_code 69 = .ok (.lsub, 1) := by decide +kernel
theorem own_d2_70 : decode prog_96_method_3_code 70 = .ok (.lstore_n 3, 1) := by decide +kernel
theorem own_d2_71 : decode prog_96_method_3_code 71 = .ok (.aload_n 0, 1) := by decide +kernel
theorem own_d2_72 : decode prog_96_method_3_code 72 = .ok (.iconst 3, 1) := by decide +kernel
theorem own_d2_73 : decode prog_96_method_3_code 73 = .ok (.lload_n 3, 1) := by decide +kernel
theorem own_d2_74 : decode prog_96_method_3_code 74 = .ok (.ldc2_w 9, 3) := by decide +kernel
theorem own_d2_77 : decode prog_96_method_3_code 77 = .ok (.land, 1) := by decide +kernel
theorem own_d2_78 : decode prog_96_method_3_code 78 = .ok (.lastore, 1) := by decide +kernel
theorem own_d2_79 : decode prog_96_method_3_code 79 = .ok (.lload_n 3, 1) := by decide +kernel
theorem own_d2_80 : decode prog_96_method_3_code 80 = .ok (.bipush 32, 2) := by decide +kernel
theorem own_d2_82 : decode prog_96_method_3_code 82 = .ok (.lshr, 1) := by decide +kernel
theorem own_d2_83 : decode prog_96_method_3_code 83 = .ok (.aload_n 1, 1) := by decide +kernel
theorem own_d2_84 : decode prog_96_method_3_code 84 = .ok (.iconst 4, 1) := by decide +kernel
theorem own_d2_85 : decode prog_96_method_3_code 85 = .ok (.laload, 1) := by decide +kernel
theorem own_d2_86 : decode prog_96_method_3_code 86 = .ok (.ladd, 1) := by decide +kernel
theorem own_d2_87 : decode prog_96_method_3_code 87 = .ok (.aload_n 2, 1) := by decide +kernel
theorem own_d2_88 : decode prog_96_method_3_code 88 = .ok (.iconst 4, 1) := by decide +kernel
theorem own_d2_89 : decode prog_96_method_3_code 89 = .ok (.laload, 1) := by decide +kernel
theorem own_d2_90 : decode prog_96_method_3_code 90 = .ok (.lsub, 1) := by decide +kernel
theorem own_d2_91 : decode prog_96_method_3_code 91 = .ok (.lstore_n 3, 1) := by decide +kernel
theorem own_d2_92 : decode prog_96_method_3_code 92 = .ok (.aload_n 0, 1) := by decide +kernel
theorem own_d2_93 : decode prog_96_method_3_code 93 = .ok (.iconst 4, 1) := by decide +kernel
theorem own_d2_94 : decode prog_96_method_3_code 94 = .ok (.lload_n 3, 1) := by decide +kernel
theorem own_d2_95 : decode prog_96_method_3_code 95 = .ok (.ldc2_w 9, 3) := by decide +kernel
theorem own_d2_98 : decode prog_96_method_3_code 98 = .ok (.land, 1) := by decide +kernel
theorem own_d2_99 : decode prog_96_method_3_code 99 = .ok (.lastore, 1) := by decide +kernel
theorem own_d2_100 : decode prog_96_method_3_code 100 = .ok (.lload_n 3, 1) := by decide +kernel
theorem own_d2_101 : decode prog_96_method_3_code 101 = .ok (.bipush 32, 2) := by decide +kernel
theorem own_d2_103 : decode prog_96_method_3_code 103 = .ok (.lshr, 1) := by decide +kernel
theorem own_d2_104 : decode prog_96_method_3_code 104 = .ok (.aload_n 1, 1) := by decide +kernel
theorem own_d2_105 : decode prog_96_method_3_code 105 = .ok (.iconst 5, 1) := by decide +kernel
theorem own_d2_106 : decode prog_96_method_3_code 106 = .ok (.laload, 1) := by decide +kernel
theorem own_d2_107 : decode prog_96_method_3_code 107 = .ok (.ladd, 1) := by decide +kernel
theorem own_d2_108 : decode prog_96_method_3_code 108 = .ok (.aload_n 2, 1) := by decide +kernel
theorem own_d2_109 : decode prog_96_method_3_code 109 = .ok (.iconst 5, 1) := by decide +kernel
theorem own_d2_110 : decode prog_96_method_3_code 110 = .ok (.laload, 1) := by decide +kernel
theorem own_d2_111 : decode prog_96_method_3_code 111 = .ok (.lsub, 1) := by decide +kernel
theorem own_d2_112 : decode prog_96_method_3_code 112 = .ok (.lstore_n 3, 1) := by decide +kernel
theorem own_d2_113 : decode prog_96_method_3_code 113 = .ok (.aload_n 0, 1) := by decide +kernel
theorem own_d2_114 : decode prog_96_method_3_code 114 = .ok (.iconst 5, 1) := by decide +kernel
theorem own_d2_115 : decode prog_96_method_3_code 115 = .ok (.lload_n 3, 1) := by decide +kernel
theorem own_d2_116 : decode prog_96_method_3_code 116 = .ok (.ldc2_w 9, 3) := by decide +kernel
theorem own_d2_119 : decode prog_96_method_3_code 119 = .ok (.land, 1) := by decide +kernel
theorem own_d2_120 : decode prog_96_method_3_code 120 = .ok (.lastore, 1) := by decide +kernel
theorem own_d2_121 : decode prog_96_method_3_code 121 = .ok (.lload_n 3, 1) := by decide +kernel
theorem own_d2_122 : decode prog_96_method_3_code 122 = .ok (.bipush 32, 2) := by decide +kernel
theorem own_d2_124 : decode prog_96_method_3_code 124 = .ok (.lshr, 1) := by decide +kernel
theorem own_d2_125 : decode prog_96_method_3_code 125 = .ok (.aload_n 1, 1) := by decide +kernel
theorem own_d2_126 : decode prog_96_method_3_code 126 = .ok (.bipush 6, 2) := by decide +kernel
theorem own_d2_128 : decode prog_96_method_3_code 128 = .ok (.laload, 1) := by decide +kernel
theorem own_d2_129 : decode prog_96_method_3_code 129 = .ok (.ladd, 1) := by decide +kernel
theorem own_d2_130 : decode prog_96_method_3_code 130 = .ok (.aload_n 2, 1) := by decide +kernel
theorem own_d2_131 : decode prog_96_method_3_code 131 = .ok (.bipush 6, 2) := by decide +kernel
theorem own_d2_133 : decode prog_96_method_3_code 133 = .ok (.laload, 1) := by decide +kernel
theorem own_d2_134 : decode prog_96_method_3_code 134 = .ok (.lsub, 1) := by decide +kernel
theorem own_d2_135 : decode prog_96_method_3_code 135 = .ok (.lstore_n 3, 1) := by decide +kernel
theorem own_d2_136 : decode prog_96_method_3_code 136 = .ok (.aload_n 0, 1) := by decide +kernel
theorem own_d2_137 : decode prog_96_method_3_code 137 = .ok (.bipush 6, 2) := by decide +kernel
theorem own_d2_139 : decode prog_96_method_3_code 139 = .ok (.lload_n 3, 1) := by decide +kernel
theorem own_d2_140 : decode prog_96_method_3_code 140 = .ok (.ldc2_w 9, 3) := by decide +kernel
theorem own_d2_143 : decode prog_96_method_3_code 143 = .ok (.land, 1) := by decide +kernel
theorem own_d2_144 : decode prog_96_method_3_code 144 = .ok (.lastore, 1) := by decide +kernel
theorem own_d2_145 : decode prog_96_method_3_code 145 = .ok (.lload_n 3, 1) := by decide +kernel
theorem own_d2_146 : decode prog_96_method_3_code 146 = .ok (.bipush 32, 2) := by decide +kernel
theorem own_d2_148 : decode prog_96_method_3_code 148 = .ok (.lshr, 1) := by decide +kernel
theorem own_d2_149 : decode prog_96_method_3_code 149 = .ok (.aload_n 1, 1) := by decide +kernel
theorem own_d2_150 : decode prog_96_method_3_code 150 = .ok (.bipush 7, 2) := by decide +kernel
theorem own_d2_152 : decode prog_96_method_3_code 152 = .ok (.laload, 1) := by decide +kernel
theorem own_d2_153 : decode prog_96_method_3_code 153 = .ok (.ladd, 1) := by decide +kernel
theorem own_d2_154 : decode prog_96_method_3_code 154 = .ok (.aload_n 2, 1) := by decide +kernel
theorem own_d2_155 : decode prog_96_method_3_code 155 = .ok (.bipush 7, 2) := by decide +kernel
theorem own_d2_157 : decode prog_96_method_3_code 157 = .ok (.laload, 1) := by decide +kernel
theorem own_d2_158 : decode prog_96_method_3_code 158 = .ok (.lsub, 1) := by decide +kernel
theorem own_d2_159 : decode prog_96_method_3_code 159 = .ok (.lstore_n 3, 1) := by decide +kernel
theorem own_d2_160 : decode prog_96_method_3_code 160 = .ok (.aload_n 0, 1) := by decide +kernel
theorem own_d2_161 : decode prog_96_method_3_code 161 = .ok (.bipush 7, 2) := by decide +kernel
theorem own_d2_163 : decode prog_96_method_3_code 163 = .ok (.lload_n 3, 1) := by decide +kernel
theorem own_d2_164 : decode prog_96_method_3_code 164 = .ok (.ldc2_w 9, 3) := by decide +kernel
theorem own_d2_167 : decode prog_96_method_3_code 167 = .ok (.land, 1) := by decide +kernel
theorem own_d2_168 : decode prog_96_method_3_code 168 = .ok (.lastore, 1) := by decide +kernel
theorem own_d2_169 : decode prog_96_method_3_code 169 = .ok (.lload_n 3, 1) := by decide +kernel
theorem own_d2_170 : decode prog_96_method_3_code 170 = .ok (.bipush 32, 2) := by decide +kernel
theorem own_d2_172 : decode prog_96_method_3_code 172 = .ok (.lshr, 1) := by decide +kernel
theorem own_d2_173 : decode prog_96_method_3_code 173 = .ok (.lreturn, 1) := by decide +kernel
theorem own_ef2 (a1 : Addr) (a2 : Addr) (a3 : Addr) (m : MethodId) : entryFrame m #[(.ref a1), (.ref a2), (.ref a3)] 5 = mkF m 0 #[.val (.ref a1), .val (.ref a2), .val (.ref a3), .unset, .unset] [] := by first | (simp [entryFrame, mkF, argsToLocals, Value.category]; done) | rfl
theorem own_pf2 : plainFor (⟨"marketmint/Words256", "subtract", "([J[J[J)J"⟩ : MethodName) = true := by first | exact plainFor_of_name (by first | (simp [plainName, overriddenIn]; done) | decide +kernel) | decide +kernel
def own_v2_15 (x0 : Int64) (y0 : Int64) : Int64 := ((x0 - y0) &&& (4294967295 : Int64))
def own_v2_28 (x0 : Int64) (x1 : Int64) (y0 : Int64) (y1 : Int64) : Int64 := ((((x0 - y0) >>> (32 : Int64)) + x1) - y1)
def own_v2_36 (x0 : Int64) (x1 : Int64) (y0 : Int64) (y1 : Int64) : Int64 := ((own_v2_28 x0 x1 y0 y1) &&& (4294967295 : Int64))
def own_v2_49 (x0 : Int64) (x1 : Int64) (x2 : Int64) (y0 : Int64) (y1 : Int64) (y2 : Int64) : Int64 := ((((own_v2_28 x0 x1 y0 y1) >>> (32 : Int64)) + x2) - y2)
def own_v2_57 (x0 : Int64) (x1 : Int64) (x2 : Int64) (y0 : Int64) (y1 : Int64) (y2 : Int64) : Int64 := ((own_v2_49 x0 x1 x2 y0 y1 y2) &&& (4294967295 : Int64))
def own_v2_70 (x0 : Int64) (x1 : Int64) (x2 : Int64) (x3 : Int64) (y0 : Int64) (y1 : Int64) (y2 : Int64) (y3 : Int64) : Int64 := ((((own_v2_49 x0 x1 x2 y0 y1 y2) >>> (32 : Int64)) + x3) - y3)
def own_v2_78 (x0 : Int64) (x1 : Int64) (x2 : Int64) (x3 : Int64) (y0 : Int64) (y1 : Int64) (y2 : Int64) (y3 : Int64) : Int64 := ((own_v2_70 x0 x1 x2 x3 y0 y1 y2 y3) &&& (4294967295 : Int64))
def own_v2_91 (x0 : Int64) (x1 : Int64) (x2 : Int64) (x3 : Int64) (x4 : Int64) (y0 : Int64) (y1 : Int64) (y2 : Int64) (y3 : Int64) (y4 : Int64) : Int64 := ((((own_v2_70 x0 x1 x2 x3 y0 y1 y2 y3) >>> (32 : Int64)) + x4) - y4)
def own_v2_99 (x0 : Int64) (x1 : Int64) (x2 : Int64) (x3 : Int64) (x4 : Int64) (y0 : Int64) (y1 : Int64) (y2 : Int64) (y3 : Int64) (y4 : Int64) : Int64 := ((own_v2_91 x0 x1 x2 x3 x4 y0 y1 y2 y3 y4) &&& (4294967295 : Int64))
def own_v2_112 (x0 : Int64) (x1 : Int64) (x2 : Int64) (x3 : Int64) (x4 : Int64) (x5 : Int64) (y0 : Int64) (y1 : Int64) (y2 : Int64) (y3 : Int64) (y4 : Int64) (y5 : Int64) : Int64 := ((((own_v2_91 x0 x1 x2 x3 x4 y0 y1 y2 y3 y4) >>> (32 : Int64)) + x5) - y5)
def own_v2_120 (x0 : Int64) (x1 : Int64) (x2 : Int64) (x3 : Int64) (x4 : Int64) (x5 : Int64) (y0 : Int64) (y1 : Int64) (y2 : Int64) (y3 : Int64) (y4 : Int64) (y5 : Int64) : Int64 := ((own_v2_112 x0 x1 x2 x3 x4 x5 y0 y1 y2 y3 y4 y5) &&& (4294967295 : Int64))
def own_v2_135 (x0 : Int64) (x1 : Int64) (x2 : Int64) (x3 : Int64) (x4 : Int64) (x5 : Int64) (x6 : Int64) (y0 : Int64) (y1 : Int64) (y2 : Int64) (y3 : Int64) (y4 : Int64) (y5 : Int64) (y6 : Int64) : Int64 := ((((own_v2_112 x0 x1 x2 x3 x4 x5 y0 y1 y2 y3 y4 y5) >>> (32 : Int64)) + x6) - y6)
def own_v2_144 (x0 : Int64) (x1 : Int64) (x2 : Int64) (x3 : Int64) (x4 : Int64) (x5 : Int64) (x6 : Int64) (y0 : Int64) (y1 : Int64) (y2 : Int64) (y3 : Int64) (y4 : Int64) (y5 : Int64) (y6 : Int64) : Int64 := ((own_v2_135 x0 x1 x2 x3 x4 x5 x6 y0 y1 y2 y3 y4 y5 y6) &&& (4294967295 : Int64))
def own_v2_159 (x0 : Int64) (x1 : Int64) (x2 : Int64) (x3 : Int64) (x4 : Int64) (x5 : Int64) (x6 : Int64) (x7 : Int64) (y0 : Int64) (y1 : Int64) (y2 : Int64) (y3 : Int64) (y4 : Int64) (y5 : Int64) (y6 : Int64) (y7 : Int64) : Int64 := ((((own_v2_135 x0 x1 x2 x3 x4 x5 x6 y0 y1 y2 y3 y4 y5 y6) >>> (32 : Int64)) + x7) - y7)
def own_v2_168 (x0 : Int64) (x1 : Int64) (x2 : Int64) (x3 : Int64) (x4 : Int64) (x5 : Int64) (x6 : Int64) (x7 : Int64) (y0 : Int64) (y1 : Int64) (y2 : Int64) (y3 : Int64) (y4 : Int64) (y5 : Int64) (y6 : Int64) (y7 : Int64) : Int64 := ((own_v2_159 x0 x1 x2 x3 x4 x5 x6 x7 y0 y1 y2 y3 y4 y5 y6 y7) &&& (4294967295 : Int64))
def own_F2 (r0 : Int64) (r1 : Int64) (r2 : Int64) (r3 : Int64) (r4 : Int64) (r5 : Int64) (r6 : Int64) (r7 : Int64) (x0 : Int64) (x1 : Int64) (x2 : Int64) (x3 : Int64) (x4 : Int64) (x5 : Int64) (x6 : Int64) (x7 : Int64) (y0 : Int64) (y1 : Int64) (y2 : Int64) (y3 : Int64) (y4 : Int64) (y5 : Int64) (y6 : Int64) (y7 : Int64) : Int64 := ((own_v2_159 x0 x1 x2 x3 x4 x5 x6 x7 y0 y1 y2 y3 y4 y5 y6 y7) >>> (32 : Int64))
set_option maxRecDepth 65536 in
set_option maxHeartbeats 40000000 in
theorem own_rm2 (l : Launch) (Z : State) (a0 : Array Value) (hw : ∀ d ∈ tables_1, d.before a0 Z = true) (a1 : Addr) (r0 : Int64) (r1 : Int64) (r2 : Int64) (r3 : Int64) (r4 : Int64) (r5 : Int64) (r6 : Int64) (r7 : Int64) (a2 : Addr) (x0 : Int64) (x1 : Int64) (x2 : Int64) (x3 : Int64) (x4 : Int64) (x5 : Int64) (x6 : Int64) (x7 : Int64) (a3 : Addr) (y0 : Int64) (y1 : Int64) (y2 : Int64) (y3 : Int64) (y4 : Int64) (y5 : Int64) (y6 : Int64) (y7 : Int64) (h0 : Heap) (n0 : Nat) (Z0 : n0 ≤ h0.size) (V_a1 : own_W Z h0 a1 (8 : Int32) [r0, r1, r2, r3, r4, r5, r6, r7]) (V_a2 : own_W Z h0 a2 (8 : Int32) [x0, x1, x2, x3, x4, x5, x6, x7]) (V_a3 : own_W Z h0 a3 (8 : Int32) [y0, y1, y2, y3, y4, y5, y6, y7]) (n21 : a2 ≠ a1) (n31 : a3 ≠ a1) (g_a1 : n0 ≤ a1) :
    own_Con l Z (⟨"marketmint/Words256", "subtract", "([J[J[J)J"⟩ : MethodName) prog_96_method_3_code 5 (some .long) ({ frames := 0, cells := 0, slots := 0, locals := 0 } : Room) #[(.ref a1), (.ref a2), (.ref a3)] h0 n0 (fun v h => v = some (.long (own_F2 r0 r1 r2 r3 r4 r5 r6 r7 x0 x1 x2 x3 x4 x5 x6 x7 y0 y1 y2 y3 y4 y5 y6 y7)) ∧ Keep h0 h [a1] ∧ own_W Z h a1 (8 : Int32) [(own_v2_15 x0 y0), (own_v2_36 x0 x1 y0 y1), (own_v2_57 x0 x1 x2 y0 y1 y2), (own_v2_78 x0 x1 x2 x3 y0 y1 y2 y3), (own_v2_99 x0 x1 x2 x3 x4 y0 y1 y2 y3 y4), (own_v2_120 x0 x1 x2 x3 x4 x5 y0 y1 y2 y3 y4 y5), (own_v2_144 x0 x1 x2 x3 x4 x5 x6 y0 y1 y2 y3 y4 y5 y6), (own_v2_168 x0 x1 x2 x3 x4 x5 x6 x7 y0 y1 y2 y3 y4 y5 y6 y7)]) := by
  refine own_enter own_pf2 Z0 (own_ef2 a1 a2 a3) ?_
  intro p e s m below meth c T0 X0 hret hnm
  refine own_aloadN X0 own_d2_0 (pc' := 1) rfl (v := (.ref a2)) rfl rfl ?_
  refine own_iconst X0 own_d2_1 (pc' := 2) rfl (z := (0 : Int32)) rfl ?_
  refine own_laload X0 V_a2 (by decide) (by decide) (y := x0) rfl own_d2_2 (pc' := 3) rfl ?_
  refine own_aloadN X0 own_d2_3 (pc' := 4) rfl (v := (.ref a3)) rfl rfl ?_
  refine own_iconst X0 own_d2_4 (pc' := 5) rfl (z := (0 : Int32)) rfl ?_
  refine own_laload X0 V_a3 (by decide) (by decide) (y := y0) rfl own_d2_5 (pc' := 6) rfl ?_
  refine own_lsub X0 own_d2_6 (pc' := 7) rfl (z := (x0 - y0)) rfl ?_
  refine own_lstoreN X0 own_d2_7 (pc' := 8) rfl (y := (x0 - y0)) rfl (Ls' := #[.val (.ref a1), .val (.ref a2), .val (.ref a3), .val (.long (x0 - y0)), .second]) rfl ?_
  refine own_aloadN X0 own_d2_8 (pc' := 9) rfl (v := (.ref a1)) rfl rfl ?_
  refine own_iconst X0 own_d2_9 (pc' := 10) rfl (z := (0 : Int32)) rfl ?_
  refine own_lloadN X0 own_d2_10 (pc' := 11) rfl (v := (x0 - y0)) rfl ?_
  refine own_ldc2 X0 (hw _ (List.mem_of_getElem? (i := 11) rfl)) own_d2_11 (pc' := 14) rfl ?_
  refine own_land X0 own_d2_14 (pc' := 15) rfl (z := ((x0 - y0) &&& (4294967295 : Int64))) rfl ?_
  refine own_lastore X0 V_a1 g_a1 (x := (own_v2_15 x0 y0)) rfl 0 rfl (by decide) (by decide) own_d2_15 (pc' := 16) rfl fun T1 h2 lc4 X3 W5 V6 => ?_
  replace V6 : own_W Z h2 a1 (8 : Int32) [(own_v2_15 x0 y0), r1, r2, r3, r4, r5, r6, r7] := V6
  have V7 := V_a2.other W5 n21
  have V8 := V_a3.other W5 n31
  have K9 := Keep.wr (Keep.refl h0 [a1]) W5 (Or.inl (List.mem_of_getElem? (i := 0) rfl))
  refine own_lloadN X3 own_d2_16 (pc' := 17) rfl (v := (x0 - y0)) rfl ?_
  refine own_bipush X3 own_d2_17 (pc' := 19) rfl (z := (32 : Int32)) rfl ?_
  refine own_lshr X3 own_d2_19 (pc' := 20) rfl (z := ((x0 - y0) >>> (32 : Int64))) rfl ?_
  refine own_aloadN X3 own_d2_20 (pc' := 21) rfl (v := (.ref a2)) rfl rfl ?_
  refine own_iconst X3 own_d2_21 (pc' := 22) rfl (z := (1 : Int32)) rfl ?_
  refine own_laload X3 V7 (by decide) (by decide) (y := x1) rfl own_d2_22 (pc' := 23) rfl ?_
  refine own_ladd X3 own_d2_23 (pc' := 24) rfl (z := (((x0 - y0) >>> (32 : Int64)) + x1)) rfl ?_
  refine own_aloadN X3 own_d2_24 (pc' := 25) rfl (v := (.ref a3)) rfl rfl ?_
  refine own_iconst X3 own_d2_25 (pc' := 26) rfl (z := (1 : Int32)) rfl ?_
  refine own_laload X3 V8 (by decide) (by decide) (y := y1) rfl own_d2_26 (pc' := 27) rfl ?_
  refine own_lsub X3 own_d2_27 (pc' := 28) rfl (z := ((((x0 - y0) >>> (32 : Int64)) + x1) - y1)) rfl ?_
  refine own_lstoreN X3 own_d2_28 (pc' := 29) rfl (y := (own_v2_28 x0 x1 y0 y1)) rfl (Ls' := #[.val (.ref a1), .val (.ref a2), .val (.ref a3), .val (.long (own_v2_28 x0 x1 y0 y1)), .second]) rfl ?_
  refine own_aloadN X3 own_d2_29 (pc' := 30) rfl (v := (.ref a1)) rfl rfl ?_
  refine own_iconst X3 own_d2_30 (pc' := 31) rfl (z := (1 : Int32)) rfl ?_
  refine own_lloadN X3 own_d2_31 (pc' := 32) rfl (v := (own_v2_28 x0 x1 y0 y1)) rfl ?_
  refine own_ldc2 X3 (hw _ (List.mem_of_getElem? (i := 11) rfl)) own_d2_32 (pc' := 35) rfl ?_
  refine own_land X3 own_d2_35 (pc' := 36) rfl (z := ((own_v2_28 x0 x1 y0 y1) &&& (4294967295 : Int64))) rfl ?_
  refine own_lastore X3 V6 g_a1 (x := (own_v2_36 x0 x1 y0 y1)) rfl 1 rfl (by decide) (by decide) own_d2_36 (pc' := 37) rfl fun T10 h11 lc13 X12 W14 V15 => ?_
  replace V15 : own_W Z h11 a1 (8 : Int32) [(own_v2_15 x0 y0), (own_v2_36 x0 x1 y0 y1), r2, r3, r4, r5, r6, r7] := V15
  have V16 := V7.other W14 n21
  have V17 := V8.other W14 n31
  have K18 := Keep.wr K9 W14 (Or.inl (List.mem_of_getElem? (i := 0) rfl))
  refine own_lloadN X12 own_d2_37 (pc' := 38) rfl (v := (own_v2_28 x0 x1 y0 y1)) rfl ?_
  refine own_bipush X12 own_d2_38 (pc' := 40) rfl (z := (32 : Int32)) rfl ?_
  refine own_lshr X12 own_d2_40 (pc' := 41) rfl (z := ((own_v2_28 x0 x1 y0 y1) >>> (32 : Int64))) rfl ?_
  refine own_aloadN X12 own_d2_41 (pc' := 42) rfl (v := (.ref a2)) rfl rfl ?_
  refine own_iconst X12 own_d2_42 (pc' := 43) rfl (z := (2 : Int32)) rfl ?_
  refine own_laload X12 V16 (by decide) (by decide) (y := x2) rfl own_d2_43 (pc' := 44) rfl ?_
  refine own_ladd X12 own_d2_44 (pc' := 45) rfl (z := (((own_v2_28 x0 x1 y0 y1) >>> (32 : Int64)) + x2)) rfl ?_
  refine own_aloadN X12 own_d2_45 (pc' := 46) rfl (v := (.ref a3)) rfl rfl ?_
  refine own_iconst X12 own_d2_46 (pc' := 47) rfl (z := (2 : Int32)) rfl ?_
  refine own_laload X12 V17 (by decide) (by decide) (y := y2) rfl own_d2_47 (pc' := 48) rfl ?_
  refine own_lsub X12 own_d2_48 (pc' := 49) rfl (z := ((((own_v2_28 x0 x1 y0 y1) >>> (32 : Int64)) + x2) - y2)) rfl ?_
  refine own_lstoreN X12 own_d2_49 (pc' := 50) rfl (y := (own_v2_49 x0 x1 x2 y0 y1 y2)) rfl (Ls' := #[.val (.ref a1), .val (.ref a2), .val (.ref a3), .val (.long (own_v2_49 x0 x1 x2 y0 y1 y2)), .second]) rfl ?_
  refine own_aloadN X12 own_d2_50 (pc' := 51) rfl (v := (.ref a1)) rfl rfl ?_
  refine own_iconst X12 own_d2_51 (pc' := 52) rfl (z := (2 : Int32)) rfl ?_
  refine own_lloadN X12 own_d2_52 (pc' := 53) rfl (v := (own_v2_49 x0 x1 x2 y0 y1 y2)) rfl ?_
  refine own_ldc2 X12 (hw _ (List.mem_of_getElem? (i := 11) rfl)) own_d2_53 (pc' := 56) rfl ?_
  refine own_land X12 own_d2_56 (pc' := 57) rfl (z := ((own_v2_49 x0 x1 x2 y0 y1 y2) &&& (4294967295 : Int64))) rfl ?_
  refine own_lastore X12 V15 g_a1 (x := (own_v2_57 x0 x1 x2 y0 y1 y2)) rfl 2 rfl (by decide) (by decide) own_d2_57 (pc' := 58) rfl fun T19 h20 lc22 X21 W23 V24 => ?_
  replace V24 : own_W Z h20 a1 (8 : Int32) [(own_v2_15 x0 y0), (own_v2_36 x0 x1 y0 y1), (own_v2_57 x0 x1 x2 y0 y1 y2), r3, r4, r5, r6, r7] := V24
  have V25 := V16.other W23 n21
  have V26 := V17.other W23 n31
  have K27 := Keep.wr K18 W23 (Or.inl (List.mem_of_getElem? (i := 0) rfl))
  refine own_lloadN X21 own_d2_58 (pc' := 59) rfl (v := (own_v2_49 x0 x1 x2 y0 y1 y2)) rfl ?_
  refine own_bipush X21 own_d2_59 (pc' := 61) rfl (z := (32 : Int32)) rfl ?_
  refine own_lshr X21 own_d2_61 (pc' := 62) rfl (z := ((own_v2_49 x0 x1 x2 y0 y1 y2) >>> (32 : Int64))) rfl ?_
  refine own_aloadN X21 own_d2_62 (pc' := 63) rfl (v := (.ref a2)) rfl rfl ?_
  refine own_iconst X21 own_d2_63 (pc' := 64) rfl (z := (3 : Int32)) rfl ?_
  refine own_laload X21 V25 (by decide) (by decide) (y := x3) rfl own_d2_64 (pc' := 65) rfl ?_
  refine own_ladd X21 own_d2_65 (pc' := 66) rfl (z := (((own_v2_49 x0 x1 x2 y0 y1 y2) >>> (32 : Int64)) + x3)) rfl ?_
  refine own_aloadN X21 own_d2_66 (pc' := 67) rfl (v := (.ref a3)) rfl rfl ?_
  refine own_iconst X21 own_d2_67 (pc' := 68) rfl (z := (3 : Int32)) rfl ?_
  refine own_laload X21 V26 (by decide) (by decide) (y := y3) rfl own_d2_68 (pc' := 69) rfl ?_
  refine own_lsub X21 own_d2_69 (pc' := 70) rfl (z := ((((own_v2_49 x0 x1 x2 y0 y1 y2) >>> (32 : Int64)) + x3) - y3)) rfl ?_
  refine own_lstoreN X21 own_d2_70 (pc' := 71) rfl (y := (own_v2_70 x0 x1 x2 x3 y0 y1 y2 y3)) rfl (Ls' := #[.val (.ref a1), .val (.ref a2), .val (.ref a3), .val (.long (own_v2_70 x0 x1 x2 x3 y0 y1 y2 y3)), .second]) rfl ?_
  refine own_aloadN X21 own_d2_71 (pc' := 72) rfl (v := (.ref a1)) rfl rfl ?_
  refine own_iconst X21 own_d2_72 (pc' := 73) rfl (z := (3 : Int32)) rfl ?_
  refine own_lloadN X21 own_d2_73 (pc' := 74) rfl (v := (own_v2_70 x0 x1 x2 x3 y0 y1 y2 y3)) rfl ?_
  refine own_ldc2 X21 (hw _ (List.mem_of_getElem? (i := 11) rfl)) own_d2_74 (pc' := 77) rfl ?_
  refine own_land X21 own_d2_77 (pc' := 78) rfl (z := ((own_v2_70 x0 x1 x2 x3 y0 y1 y2 y3) &&& (4294967295 : Int64))) rfl ?_
  refine own_lastore X21 V24 g_a1 (x := (own_v2_78 x0 x1 x2 x3 y0 y1 y2 y3)) rfl 3 rfl (by decide) (by decide) own_d2_78 (pc' := 79) rfl fun T28 h29 lc31 X30 W32 V33 => ?_
  replace V33 : own_W Z h29 a1 (8 : Int32) [(own_v2_15 x0 y0), (own_v2_36 x0 x1 y0 y1), (own_v2_57 x0 x1 x2 y0 y1 y2), (own_v2_78 x0 x1 x2 x3 y0 y1 y2 y3), r4, r5, r6, r7] := V33
  have V34 := V25.other W32 n21
  have V35 := V26.other W32 n31
  have K36 := Keep.wr K27 W32 (Or.inl (List.mem_of_getElem? (i := 0) rfl))
  refine own_lloadN X30 own_d2_79 (pc' := 80) rfl (v := (own_v2_70 x0 x1 x2 x3 y0 y1 y2 y3)) rfl ?_
  refine own_bipush X30 own_d2_80 (pc' := 82) rfl (z := (32 : Int32)) rfl ?_
  refine own_lshr X30 own_d2_82 (pc' := 83) rfl (z := ((own_v2_70 x0 x1 x2 x3 y0 y1 y2 y3) >>> (32 : Int64))) rfl ?_
  refine own_aloadN X30 own_d2_83 (pc' := 84) rfl (v := (.ref a2)) rfl rfl ?_
  refine own_iconst X30 own_d2_84 (pc' := 85) rfl (z := (4 : Int32)) rfl ?_
  refine own_laload X30 V34 (by decide) (by decide) (y := x4) rfl own_d2_85 (pc' := 86) rfl ?_
  refine own_ladd X30 own_d2_86 (pc' := 87) rfl (z := (((own_v2_70 x0 x1 x2 x3 y0 y1 y2 y3) >>> (32 : Int64)) + x4)) rfl ?_
  refine own_aloadN X30 own_d2_87 (pc' := 88) rfl (v := (.ref a3)) rfl rfl ?_
  refine own_iconst X30 own_d2_88 (pc' := 89) rfl (z := (4 : Int32)) rfl ?_
  refine own_laload X30 V35 (by decide) (by decide) (y := y4) rfl own_d2_89 (pc' := 90) rfl ?_
  refine own_lsub X30 own_d2_90 (pc' := 91) rfl (z := ((((own_v2_70 x0 x1 x2 x3 y0 y1 y2 y3) >>> (32 : Int64)) + x4) - y4)) rfl ?_
  refine own_lstoreN X30 own_d2_91 (pc' := 92) rfl (y := (own_v2_91 x0 x1 x2 x3 x4 y0 y1 y2 y3 y4)) rfl (Ls' := #[.val (.ref a1), .val (.ref a2), .val (.ref a3), .val (.long (own_v2_91 x0 x1 x2 x3 x4 y0 y1 y2 y3 y4)), .second]) rfl ?_
  refine own_aloadN X30 own_d2_92 (pc' := 93) rfl (v := (.ref a1)) rfl rfl ?_
  refine own_iconst X30 own_d2_93 (pc' := 94) rfl (z := (4 : Int32)) rfl ?_
  refine own_lloadN X30 own_d2_94 (pc' := 95) rfl (v := (own_v2_91 x0 x1 x2 x3 x4 y0 y1 y2 y3 y4)) rfl ?_
  refine own_ldc2 X30 (hw _ (List.mem_of_getElem? (i := 11) rfl)) own_d2_95 (pc' := 98) rfl ?_
  refine own_land X30 own_d2_98 (pc' := 99) rfl (z := ((own_v2_91 x0 x1 x2 x3 x4 y0 y1 y2 y3 y4) &&& (4294967295 : Int64))) rfl ?_
  refine own_lastore X30 V33 g_a1 (x := (own_v2_99 x0 x1 x2 x3 x4 y0 y1 y2 y3 y4)) rfl 4 rfl (by decide) (by decide) own_d2_99 (pc' := 100) rfl fun T37 h38 lc40 X39 W41 V42 => ?_
  replace V42 : own_W Z h38 a1 (8 : Int32) [(own_v2_15 x0 y0), (own_v2_36 x0 x1 y0 y1), (own_v2_57 x0 x1 x2 y0 y1 y2), (own_v2_78 x0 x1 x2 x3 y0 y1 y2 y3), (own_v2_99 x0 x1 x2 x3 x4 y0 y1 y2 y3 y4), r5, r6, r7] := V42
  have V43 := V34.other W41 n21
  have V44 := V35.other W41 n31
  have K45 := Keep.wr K36 W41 (Or.inl (List.mem_of_getElem? (i := 0) rfl))
  refine own_lloadN X39 own_d2_100 (pc' := 101) rfl (v := (own_v2_91 x0 x1 x2 x3 x4 y0 y1 y2 y3 y4)) rfl ?_
  refine own_bipush X39 own_d2_101 (pc' := 103) rfl (z := (32 : Int32)) rfl ?_
  refine own_lshr X39 own_d2_103 (pc' := 104) rfl (z := ((own_v2_91 x0 x1 x2 x3 x4 y0 y1 y2 y3 y4) >>> (32 : Int64))) rfl ?_
  refine own_aloadN X39 own_d2_104 (pc' := 105) rfl (v := (.ref a2)) rfl rfl ?_
  refine own_iconst X39 own_d2_105 (pc' := 106) rfl (z := (5 : Int32)) rfl ?_
  refine own_laload X39 V43 (by decide) (by decide) (y := x5) rfl own_d2_106 (pc' := 107) rfl ?_
  refine own_ladd X39 own_d2_107 (pc' := 108) rfl (z := (((own_v2_91 x0 x1 x2 x3 x4 y0 y1 y2 y3 y4) >>> (32 : Int64)) + x5)) rfl ?_
  refine own_aloadN X39 own_d2_108 (pc' := 109) rfl (v := (.ref a3)) rfl rfl ?_
  refine own_iconst X39 own_d2_109 (pc' := 110) rfl (z := (5 : Int32)) rfl ?_
  refine own_laload X39 V44 (by decide) (by decide) (y := y5) rfl own_d2_110 (pc' := 111) rfl ?_
  refine own_lsub X39 own_d2_111 (pc' := 112) rfl (z := ((((own_v2_91 x0 x1 x2 x3 x4 y0 y1 y2 y3 y4) >>> (32 : Int64)) + x5) - y5)) rfl ?_
  refine own_lstoreN X39 own_d2_112 (pc' := 113) rfl (y := (own_v2_112 x0 x1 x2 x3 x4 x5 y0 y1 y2 y3 y4 y5)) rfl (Ls' := #[.val (.ref a1), .val (.ref a2), .val (.ref a3), .val (.long (own_v2_112 x0 x1 x2 x3 x4 x5 y0 y1 y2 y3 y4 y5)), .second]) rfl ?_
  refine own_aloadN X39 own_d2_113 (pc' := 114) rfl (v := (.ref a1)) rfl rfl ?_
  refine own_iconst X39 own_d2_114 (pc' := 115) rfl (z := (5 : Int32)) rfl ?_
  refine own_lloadN X39 own_d2_115 (pc' := 116) rfl (v := (own_v2_112 x0 x1 x2 x3 x4 x5 y0 y1 y2 y3 y4 y5)) rfl ?_
  refine own_ldc2 X39 (hw _ (List.mem_of_getElem? (i := 11) rfl)) own_d2_116 (pc' := 119) rfl ?_
  refine own_land X39 own_d2_119 (pc' := 120) rfl (z := ((own_v2_112 x0 x1 x2 x3 x4 x5 y0 y1 y2 y3 y4 y5) &&& (4294967295 : Int64))) rfl ?_
  refine own_lastore X39 V42 g_a1 (x := (own_v2_120 x0 x1 x2 x3 x4 x5 y0 y1 y2 y3 y4 y5)) rfl 5 rfl (by decide) (by decide) own_d2_120 (pc' := 121) rfl fun T46 h47 lc49 X48 W50 V51 => ?_
  replace V51 : own_W Z h47 a1 (8 : Int32) [(own_v2_15 x0 y0), (own_v2_36 x0 x1 y0 y1), (own_v2_57 x0 x1 x2 y0 y1 y2), (own_v2_78 x0 x1 x2 x3 y0 y1 y2 y3), (own_v2_99 x0 x1 x2 x3 x4 y0 y1 y2 y3 y4), (own_v2_120 x0 x1 x2 x3 x4 x5 y0 y1 y2 y3 y4 y5), r6, r7] := V51
  have V52 := V43.other W50 n21
  have V53 := V44.other W50 n31
  have K54 := Keep.wr K45 W50 (Or.inl (List.mem_of_getElem? (i := 0) rfl))
  refine own_lloadN X48 own_d2_121 (pc' := 122) rfl (v := (own_v2_112 x0 x1 x2 x3 x4 x5 y0 y1 y2 y3 y4 y5)) rfl ?_
  refine own_bipush X48 own_d2_122 (pc' := 124) rfl (z := (32 : Int32)) rfl ?_
  refine own_lshr X48 own_d2_124 (pc' := 125) rfl (z := ((own_v2_112 x0 x1 x2 x3 x4 x5 y0 y1 y2 y3 y4 y5) >>> (32 : Int64))) rfl ?_
  refine own_aloadN X48 own_d2_125 (pc' := 126) rfl (v := (.ref a2)) rfl rfl ?_
  refine own_bipush X48 own_d2_126 (pc' := 128) rfl (z := (6 : Int32)) rfl ?_
  refine own_laload X48 V52 (by decide) (by decide) (y := x6) rfl own_d2_128 (pc' := 129) rfl ?_
  refine own_ladd X48 own_d2_129 (pc' := 130) rfl (z := (((own_v2_112 x0 x1 x2 x3 x4 x5 y0 y1 y2 y3 y4 y5) >>> (32 : Int64)) + x6)) rfl ?_
  refine own_aloadN X48 own_d2_130 (pc' := 131) rfl (v := (.ref a3)) rfl rfl ?_
  refine own_bipush X48 own_d2_131 (pc' := 133) rfl (z := (6 : Int32)) rfl ?_
  refine own_laload X48 V53 (by decide) (by decide) (y := y6) rfl own_d2_133 (pc' := 134) rfl ?_
  refine own_lsub X48 own_d2_134 (pc' := 135) rfl (z := ((((own_v2_112 x0 x1 x2 x3 x4 x5 y0 y1 y2 y3 y4 y5) >>> (32 : Int64)) + x6) - y6)) rfl ?_
  refine own_lstoreN X48 own_d2_135 (pc' := 136) rfl (y := (own_v2_135 x0 x1 x2 x3 x4 x5 x6 y0 y1 y2 y3 y4 y5 y6)) rfl (Ls' := #[.val (.ref a1), .val (.ref a2), .val (.ref a3), .val (.long (own_v2_135 x0 x1 x2 x3 x4 x5 x6 y0 y1 y2 y3 y4 y5 y6)), .second]) rfl ?_
  refine own_aloadN X48 own_d2_136 (pc' := 137) rfl (v := (.ref a1)) rfl rfl ?_
  refine own_bipush X48 own_d2_137 (pc' := 139) rfl (z := (6 : Int32)) rfl ?_
  refine own_lloadN X48 own_d2_139 (pc' := 140) rfl (v := (own_v2_135 x0 x1 x2 x3 x4 x5 x6 y0 y1 y2 y3 y4 y5 y6)) rfl ?_
  refine own_ldc2 X48 (hw _ (List.mem_of_getElem? (i := 11) rfl)) own_d2_140 (pc' := 143) rfl ?_
  refine own_land X48 own_d2_143 (pc' := 144) rfl (z := ((own_v2_135 x0 x1 x2 x3 x4 x5 x6 y0 y1 y2 y3 y4 y5 y6) &&& (4294967295 : Int64))) rfl ?_
  refine own_lastore X48 V51 g_a1 (x := (own_v2_144 x0 x1 x2 x3 x4 x5 x6 y0 y1 y2 y3 y4 y5 y6)) rfl 6 rfl (by decide) (by decide) own_d2_144 (pc' := 145) rfl fun T55 h56 lc58 X57 W59 V60 => ?_
  replace V60 : own_W Z h56 a1 (8 : Int32) [(own_v2_15 x0 y0), (own_v2_36 x0 x1 y0 y1), (own_v2_57 x0 x1 x2 y0 y1 y2), (own_v2_78 x0 x1 x2 x3 y0 y1 y2 y3), (own_v2_99 x0 x1 x2 x3 x4 y0 y1 y2 y3 y4), (own_v2_120 x0 x1 x2 x3 x4 x5 y0 y1 y2 y3 y4 y5), (own_v2_144 x0 x1 x2 x3 x4 x5 x6 y0 y1 y2 y3 y4 y5 y6), r7] := V60
  have V61 := V52.other W59 n21
  have V62 := V53.other W59 n31
  have K63 := Keep.wr K54 W59 (Or.inl (List.mem_of_getElem? (i := 0) rfl))
  refine own_lloadN X57 own_d2_145 (pc' := 146) rfl (v := (own_v2_135 x0 x1 x2 x3 x4 x5 x6 y0 y1 y2 y3 y4 y5 y6)) rfl ?_
  refine own_bipush X57 own_d2_146 (pc' := 148) rfl (z := (32 : Int32)) rfl ?_
  refine own_lshr X57 own_d2_148 (pc' := 149) rfl (z := ((own_v2_135 x0 x1 x2 x3 x4 x5 x6 y0 y1 y2 y3 y4 y5 y6) >>> (32 : Int64))) rfl ?_
  refine own_aloadN X57 own_d2_149 (pc' := 150) rfl (v := (.ref a2)) rfl rfl ?_
  refine own_bipush X57 own_d2_150 (pc' := 152) rfl (z := (7 : Int32)) rfl ?_
  refine own_laload X57 V61 (by decide) (by decide) (y := x7) rfl own_d2_152 (pc' := 153) rfl ?_
  refine own_ladd X57 own_d2_153 (pc' := 154) rfl (z := (((own_v2_135 x0 x1 x2 x3 x4 x5 x6 y0 y1 y2 y3 y4 y5 y6) >>> (32 : Int64)) + x7)) rfl ?_
  refine own_aloadN X57 own_d2_154 (pc' := 155) rfl (v := (.ref a3)) rfl rfl ?_
  refine own_bipush X57 own_d2_155 (pc' := 157) rfl (z := (7 : Int32)) rfl ?_
  refine own_laload X57 V62 (by decide) (by decide) (y := y7) rfl own_d2_157 (pc' := 158) rfl ?_
  refine own_lsub X57 own_d2_158 (pc' := 159) rfl (z := ((((own_v2_135 x0 x1 x2 x3 x4 x5 x6 y0 y1 y2 y3 y4 y5 y6) >>> (32 : Int64)) + x7) - y7)) rfl ?_
  refine own_lstoreN X57 own_d2_159 (pc' := 160) rfl (y := (own_v2_159 x0 x1 x2 x3 x4 x5 x6 x7 y0 y1 y2 y3 y4 y5 y6 y7)) rfl (Ls' := #[.val (.ref a1), .val (.ref a2), .val (.ref a3), .val (.long (own_v2_159 x0 x1 x2 x3 x4 x5 x6 x7 y0 y1 y2 y3 y4 y5 y6 y7)), .second]) rfl ?_
  refine own_aloadN X57 own_d2_160 (pc' := 161) rfl (v := (.ref a1)) rfl rfl ?_
  refine own_bipush X57 own_d2_161 (pc' := 163) rfl (z := (7 : Int32)) rfl ?_
  refine own_lloadN X57 own_d2_163 (pc' := 164) rfl (v := (own_v2_159 x0 x1 x2 x3 x4 x5 x6 x7 y0 y1 y2 y3 y4 y5 y6 y7)) rfl ?_
  refine own_ldc2 X57 (hw _ (List.mem_of_getElem? (i := 11) rfl)) own_d2_164 (pc' := 167) rfl ?_
  refine own_land X57 own_d2_167 (pc' := 168) rfl (z := ((own_v2_159 x0 x1 x2 x3 x4 x5 x6 x7 y0 y1 y2 y3 y4 y5 y6 y7) &&& (4294967295 : Int64))) rfl ?_
  refine own_lastore X57 V60 g_a1 (x := (own_v2_168 x0 x1 x2 x3 x4 x5 x6 x7 y0 y1 y2 y3 y4 y5 y6 y7)) rfl 7 rfl (by decide) (by decide) own_d2_168 (pc' := 169) rfl fun T64 h65 lc67 X66 W68 V69 => ?_
  replace V69 : own_W Z h65 a1 (8 : Int32) [(own_v2_15 x0 y0), (own_v2_36 x0 x1 y0 y1), (own_v2_57 x0 x1 x2 y0 y1 y2), (own_v2_78 x0 x1 x2 x3 y0 y1 y2 y3), (own_v2_99 x0 x1 x2 x3 x4 y0 y1 y2 y3 y4), (own_v2_120 x0 x1 x2 x3 x4 x5 y0 y1 y2 y3 y4 y5), (own_v2_144 x0 x1 x2 x3 x4 x5 x6 y0 y1 y2 y3 y4 y5 y6), (own_v2_168 x0 x1 x2 x3 x4 x5 x6 x7 y0 y1 y2 y3 y4 y5 y6 y7)] := V69
  have V70 := V61.other W68 n21
  have V71 := V62.other W68 n31
  have K72 := Keep.wr K63 W68 (Or.inl (List.mem_of_getElem? (i := 0) rfl))
  refine own_lloadN X66 own_d2_169 (pc' := 170) rfl (v := (own_v2_159 x0 x1 x2 x3 x4 x5 x6 x7 y0 y1 y2 y3 y4 y5 y6 y7)) rfl ?_
  refine own_bipush X66 own_d2_170 (pc' := 172) rfl (z := (32 : Int32)) rfl ?_
  refine own_lshr X66 own_d2_172 (pc' := 173) rfl (z := ((own_v2_159 x0 x1 x2 x3 x4 x5 x6 x7 y0 y1 y2 y3 y4 y5 y6 y7) >>> (32 : Int64))) rfl ?_
  refine own_lret X66 hret own_d2_173 (by decide) (by decide) ?_
  exact ⟨congrArg (fun t => some (Value.long t)) (show ((own_v2_159 x0 x1 x2 x3 x4 x5 x6 x7 y0 y1 y2 y3 y4 y5 y6 y7) >>> (32 : Int64)) = own_F2 r0 r1 r2 r3 r4 r5 r6 r7 x0 x1 x2 x3 x4 x5 x6 x7 y0 y1 y2 y3 y4 y5 y6 y7 from rfl), K72, V69⟩
theorem own_d3_0 : decode method_3_code 0 = .ok (.lload_n 0, 1) := by decide +kernel
theorem own_d3_1 : decode method_3_code 1 = .ok (.lconst 0, 1) := by decide +kernel
theorem own_d3_2 : decode method_3_code 2 = .ok (.lcmp, 1) := by decide +kernel
theorem own_d3_3 : decode method_3_code 3 = .ok (.ifCond .lt 15, 3) := by decide +kernel
theorem own_d3_6 : decode method_3_code 6 = .ok (.lload_n 0, 1) := by decide +kernel
theorem own_d3_7 : decode method_3_code 7 = .ok (.ldc2_w 9, 3) := by decide +kernel
theorem own_d3_10 : decode method_3_code 10 = .ok (.lcmp, 1) := by decide +kernel
theorem own_d3_11 : decode method_3_code 11 = .ok (.ifCond .gt 7, 3) := by decide +kernel
theorem own_d3_14 : decode method_3_code 14 = .ok (.iconst 1, 1) := by decide +kernel
theorem own_d3_15 : decode method_3_code 15 = .ok (.goto 4, 3) := by decide +kernel
theorem own_d3_18 : decode method_3_code 18 = .ok (.iconst 0, 1) := by decide +kernel
theorem own_d3_19 : decode method_3_code 19 = .ok (.ireturn, 1) := by decide +kernel
theorem own_ef3 (q1 : Int64) (m : MethodId) : entryFrame m #[(.long q1)] 2 = mkF m 0 #[.val (.long q1), .second] [] := by first | (simp [entryFrame, mkF, argsToLocals, Value.category]; done) | rfl
theorem own_pf3 : plainFor (⟨"marketmint/Words256SubtractPinLaw", "inWord", "(J)Z"⟩ : MethodName) = true := by first | exact plainFor_of_name (by first | (simp [plainName, overriddenIn]; done) | decide +kernel) | decide +kernel
def own_F3 (q1 : Int64) : Int32 := (if q1 < (0 : Int64) then (0 : Int32) else (if (4294967295 : Int64) < q1 then (0 : Int32) else (1 : Int32)))
set_option maxRecDepth 65536 in
set_option maxHeartbeats 40000000 in
theorem own_rm3 (l : Launch) (Z : State) (a0 : Array Value) (hw : ∀ d ∈ tables_1, d.before a0 Z = true) (q1 : Int64) (h0 : Heap) (n0 : Nat) (Z0 : n0 ≤ h0.size) :
    own_Con l Z (⟨"marketmint/Words256SubtractPinLaw", "inWord", "(J)Z"⟩ : MethodName) method_3_code 2 (some .boolean) ({ frames := 0, cells := 0, slots := 0, locals := 0 } : Room) #[(.long q1)] h0 n0 (fun v h => v = some (.int (own_F3 q1)) ∧ h = h0) := by
  refine own_enter own_pf3 Z0 (own_ef3 q1) ?_
  intro p e s m below meth c T0 X0 hret hnm
  refine own_lloadN X0 own_d3_0 (pc' := 1) rfl (v := q1) rfl ?_
  refine own_lconst X0 own_d3_1 (pc' := 2) rfl (z := (0 : Int64)) rfl ?_
  by_cases hc1 : q1 < (0 : Int64)
  · refine own_ljY X0 own_d3_2 rfl own_d3_3 (own_tltL hc1).1 (by decide) (pc' := 18) rfl ?_
    refine own_iconst X0 own_d3_18 (pc' := 19) rfl (z := (0 : Int32)) rfl ?_
    refine own_iret X0 (t := .boolean) (w := (0 : Int32)) hret (by simp) own_d3_19 rfl (by decide) (by decide) ?_
    exact ⟨congrArg (fun t => some (Value.int t)) (show (0 : Int32) = own_F3 q1 from (by rw [own_F3, if_pos hc1])), rfl⟩
  · refine own_ljN X0 own_d3_2 rfl own_d3_3 (own_fltL hc1).1 (pc' := 6) rfl ?_
    refine own_lloadN X0 own_d3_6 (pc' := 7) rfl (v := q1) rfl ?_
    refine own_ldc2 X0 (hw _ (List.mem_of_getElem? (i := 1) rfl)) own_d3_7 (pc' := 10) rfl ?_
    by_cases hc2 : (4294967295 : Int64) < q1
    · refine own_ljY X0 own_d3_10 rfl own_d3_11 (own_tltL hc2).2.2.1 (by decide) (pc' := 18) rfl ?_
      refine own_iconst X0 own_d3_18 (pc' := 19) rfl (z := (0 : Int32)) rfl ?_
      refine own_iret X0 (t := .boolean) (w := (0 : Int32)) hret (by simp) own_d3_19 rfl (by decide) (by decide) ?_
      exact ⟨congrArg (fun t => some (Value.int t)) (show (0 : Int32) = own_F3 q1 from (by rw [own_F3, if_neg hc1, if_pos hc2])), rfl⟩
    · refine own_ljN X0 own_d3_10 rfl own_d3_11 (own_fltL hc2).2.2.1 (pc' := 14) rfl ?_
      refine own_iconst X0 own_d3_14 (pc' := 15) rfl (z := (1 : Int32)) rfl ?_
      refine own_goto X0 own_d3_15 (by decide) (pc' := 19) rfl ?_
      refine own_iret X0 (t := .boolean) (w := (1 : Int32)) hret (by simp) own_d3_19 rfl (by decide) (by decide) ?_
      exact ⟨congrArg (fun t => some (Value.int t)) (show (1 : Int32) = own_F3 q1 from (by rw [own_F3, if_neg hc1, if_neg hc2])), rfl⟩
theorem own_d4_0 : decode prog_96_method_2_code 0 = .ok (.aload_n 1, 1) := by decide +kernel
theorem own_d4_1 : decode prog_96_method_2_code 1 = .ok (.iconst 0, 1) := by decide +kernel
theorem own_d4_2 : decode prog_96_method_2_code 2 = .ok (.laload, 1) := by decide +kernel
theorem own_d4_3 : decode prog_96_method_2_code 3 = .ok (.aload_n 2, 1) := by decide +kernel
theorem own_d4_4 : decode prog_96_method_2_code 4 = .ok (.iconst 0, 1) := by decide +kernel
theorem own_d4_5 : decode prog_96_method_2_code 5 = .ok (.laload, 1) := by decide +kernel
theorem own_d4_6 : decode prog_96_method_2_code 6 = .ok (.ladd, 1) := by decide +kernel
theorem own_d4_7 : decode prog_96_method_2_code 7 = .ok (.lstore_n 3, 1) := by decide +kernel
theorem own_d4_8 : decode prog_96_method_2_code 8 = .ok (.aload_n 0, 1) := by decide +kernel
theorem own_d4_9 : decode prog_96_method_2_code 9 = .ok (.iconst 0, 1) := by decide +kernel
theorem own_d4_10 : decode prog_96_method_2_code 10 = .ok (.lload_n 3, 1) := by decide +kernel
theorem own_d4_11 : decode prog_96_method_2_code 11 = .ok (.ldc2_w 9, 3) := by decide +kernel
theorem own_d4_14 : decode prog_96_method_2_code 14 = .ok (.land, 1) := by decide +kernel
theorem own_d4_15 : decode prog_96_method_2_code 15 = .ok (.lastore, 1) := by decide +kernel
theorem own_d4_16 : decode prog_96_method_2_code 16 = .ok (.lload_n 3, 1) := by decide +kernel
theorem own_d4_17 : decode prog_96_method_2_code 17 = .ok (.bipush 32, 2) := by decide +kernel
theorem own_d4_19 : decode prog_96_method_2_code 19 = .ok (.lushr, 1) := by decide +kernel
theorem own_d4_20 : decode prog_96_method_2_code 20 = .ok (.aload_n 1, 1) := by decide +kernel
theorem own_d4_21 : decode prog_96_method_2_code 21 = .ok (.iconst 1, 1) := by decide +kernel
theorem own_d4_22 : decode prog_96_method_2_code 22 = .ok (.laload, 1) := by decide +kernel
theorem own_d4_23 : decode prog_96_method_2_code 23 = .ok (.ladd, 1) := by decide +kernel
theorem own_d4_24 : decode prog_96_method_2_code 24 = .ok (.aload_n 2, 1) := by decide +kernel
theorem own_d4_25 : decode prog_96_method_2_code 25 = .ok (.iconst 1, 1) := by decide +kernel
theorem own_d4_26 : decode prog_96_method_2_code 26 = .ok (.laload, 1) := by decide +kernel
theorem own_d4_27 : decode prog_96_method_2_code 27 = .ok (.ladd, 1) := by decide +kernel
theorem own_d4_28 : decode prog_96_method_2_code 28 = .ok (.lstore_n 3, 1) := by decide +kernel
theorem own_d4_29 : decode prog_96_method_2_code 29 = .ok (.aload_n 0, 1) := by decide +kernel
theorem own_d4_30 : decode prog_96_method_2_code 30 = .ok (.iconst 1, 1) := by decide +kernel
theorem own_d4_31 : decode prog_96_method_2_code 31 = .ok (.lload_n 3, 1) := by decide +kernel
theorem own_d4_32 : decode prog_96_method_2_code 32 = .ok (.ldc2_w 9, 3) := by decide +kernel
theorem own_d4_35 : decode prog_96_method_2_code 35 = .ok (.land, 1) := by decide +kernel
theorem own_d4_36 : decode prog_96_method_2_code 36 = .ok (.lastore, 1) := by decide +kernel
theorem own_d4_37 : decode prog_96_method_2_code 37 = .ok (.lload_n 3, 1) := by decide +kernel
theorem own_d4_38 : decode prog_96_method_2_code 38 = .ok (.bipush 32, 2) := by decide +kernel
theorem own_d4_40 : decode prog_96_method_2_code 40 = .ok (.lushr, 1) := by decide +kernel
theorem own_d4_41 : decode prog_96_method_2_code 41 = .ok (.aload_n 1, 1) := by decide +kernel
theorem own_d4_42 : decode prog_96_method_2_code 42 = .ok (.iconst 2, 1) := by decide +kernel
theorem own_d4_43 : decode prog_96_method_2_code 43 = .ok (.laload, 1) := by decide +kernel
theorem own_d4_44 : decode prog_96_method_2_code 44 = .ok (.ladd, 1) := by decide +kernel
theorem own_d4_45 : decode prog_96_method_2_code 45 = .ok (.aload_n 2, 1) := by decide +kernel
theorem own_d4_46 : decode prog_96_method_2_code 46 = .ok (.iconst 2, 1) := by decide +kernel
theorem own_d4_47 : decode prog_96_method_2_code 47 = .ok (.laload, 1) := by decide +kernel
theorem own_d4_48 : decode prog_96_method_2_code 48 = .ok (.ladd, 1) := by decide +kernel
theorem own_d4_49 : decode prog_96_method_2_code 49 = .ok (.lstore_n 3, 1) := by decide +kernel
theorem own_d4_50 : decode prog_96_method_2_code 50 = .ok (.aload_n 0, 1) := by decide +kernel
theorem own_d4_51 : decode prog_96_method_2_code 51 = .ok (.iconst 2, 1) := by decide +kernel
theorem own_d4_52 : decode prog_96_method_2_code 52 = .ok (.lload_n 3, 1) := by decide +kernel
theorem own_d4_53 : decode prog_96_method_2_code 53 = .ok (.ldc2_w 9, 3) := by decide +kernel
theorem own_d4_56 : decode prog_96_method_2_code 56 = .ok (.land, 1) := by decide +kernel
theorem own_d4_57 : decode prog_96_method_2_code 57 = .ok (.lastore, 1) := by decide +kernel
theorem own_d4_58 : decode prog_96_method_2_code 58 = .ok (.lload_n 3, 1) := by decide +kernel
theorem own_d4_59 : decode prog_96_method_2_code 59 = .ok (.bipush 32, 2) := by decide +kernel
theorem own_d4_61 : decode prog_96_method_2_code 61 = .ok (.lushr, 1) := by decide +kernel
theorem own_d4_62 : decode prog_96_method_2_code 62 = .ok (.aload_n 1, 1) := by decide +kernel
theorem own_d4_63 : decode prog_96_method_2_code 63 = .ok (.iconst 3, 1) := by decide +kernel
theorem own_d4_64 : decode prog_96_method_2_code 64 = .ok (.laload, 1) := by decide +kernel
theorem own_d4_65 : decode prog_96_method_2_code 65 = .ok (.ladd, 1) := by decide +kernel
theorem own_d4_66 : decode prog_96_method_2_code 66 = .ok (.aload_n 2, 1) := by decide +kernel
theorem own_d4_67 : decode prog_96_method_2_code 67 = .ok (.iconst 3, 1) := by decide +kernel
theorem own_d4_68 : decode prog_96_method_2_code 68 = .ok (.laload, 1) := by decide +kernel
theorem own_d4_69 : decode prog_96_method_2_code 69 = .ok (.ladd, 1) := by decide +kernel
theorem own_d4_70 : decode prog_96_method_2_code 70 = .ok (.lstore_n 3, 1) := by decide +kernel
theorem own_d4_71 : decode prog_96_method_2_code 71 = .ok (.aload_n 0, 1) := by decide +kernel
theorem own_d4_72 : decode prog_96_method_2_code 72 = .ok (.iconst 3, 1) := by decide +kernel
theorem own_d4_73 : decode prog_96_method_2_code 73 = .ok (.lload_n 3, 1) := by decide +kernel
theorem own_d4_74 : decode prog_96_method_2_code 74 = .ok (.ldc2_w 9, 3) := by decide +kernel
theorem own_d4_77 : decode prog_96_method_2_code 77 = .ok (.land, 1) := by decide +kernel
theorem own_d4_78 : decode prog_96_method_2_code 78 = .ok (.lastore, 1) := by decide +kernel
theorem own_d4_79 : decode prog_96_method_2_code 79 = .ok (.lload_n 3, 1) := by decide +kernel
theorem own_d4_80 : decode prog_96_method_2_code 80 = .ok (.bipush 32, 2) := by decide +kernel
theorem own_d4_82 : decode prog_96_method_2_code 82 = .ok (.lushr, 1) := by decide +kernel
theorem own_d4_83 : decode prog_96_method_2_code 83 = .ok (.aload_n 1, 1) := by decide +kernel
theorem own_d4_84 : decode prog_96_method_2_code 84 = .ok (.iconst 4, 1) := by decide +kernel
theorem own_d4_85 : decode prog_96_method_2_code 85 = .ok (.laload, 1) := by decide +kernel
theorem own_d4_86 : decode prog_96_method_2_code 86 = .ok (.ladd, 1) := by decide +kernel
theorem own_d4_87 : decode prog_96_method_2_code 87 = .ok (.aload_n 2, 1) := by decide +kernel
theorem own_d4_88 : decode prog_96_method_2_code 88 = .ok (.iconst 4, 1) := by decide +kernel
theorem own_d4_89 : decode prog_96_method_2_code 89 = .ok (.laload, 1) := by decide +kernel
theorem own_d4_90 : decode prog_96_method_2_code 90 = .ok (.ladd, 1) := by decide +kernel
theorem own_d4_91 : decode prog_96_method_2_code 91 = .ok (.lstore_n 3, 1) := by decide +kernel
theorem own_d4_92 : decode prog_96_method_2_code 92 = .ok (.aload_n 0, 1) := by decide +kernel
theorem own_d4_93 : decode prog_96_method_2_code 93 = .ok (.iconst 4, 1) := by decide +kernel
theorem own_d4_94 : decode prog_96_method_2_code 94 = .ok (.lload_n 3, 1) := by decide +kernel
theorem own_d4_95 : decode prog_96_method_2_code 95 = .ok (.ldc2_w 9, 3) := by decide +kernel
theorem own_d4_98 : decode prog_96_method_2_code 98 = .ok (.land, 1) := by decide +kernel
theorem own_d4_99 : decode prog_96_method_2_code 99 = .ok (.lastore, 1) := by decide +kernel
theorem own_d4_100 : decode prog_96_method_2_code 100 = .ok (.lload_n 3, 1) := by decide +kernel
theorem own_d4_101 : decode prog_96_method_2_code 101 = .ok (.bipush 32, 2) := by decide +kernel
theorem own_d4_103 : decode prog_96_method_2_code 103 = .ok (.lushr, 1) := by decide +kernel
theorem own_d4_104 : decode prog_96_method_2_code 104 = .ok (.aload_n 1, 1) := by decide +kernel
theorem own_d4_105 : decode prog_96_method_2_code 105 = .ok (.iconst 5, 1) := by decide +kernel
theorem own_d4_106 : decode prog_96_method_2_code 106 = .ok (.laload, 1) := by decide +kernel
theorem own_d4_107 : decode prog_96_method_2_code 107 = .ok (.ladd, 1) := by decide +kernel
theorem own_d4_108 : decode prog_96_method_2_code 108 = .ok (.aload_n 2, 1) := by decide +kernel
theorem own_d4_109 : decode prog_96_method_2_code 109 = .ok (.iconst 5, 1) := by decide +kernel
theorem own_d4_110 : decode prog_96_method_2_code 110 = .ok (.laload, 1) := by decide +kernel
theorem own_d4_111 : decode prog_96_method_2_code 111 = .ok (.ladd, 1) := by decide +kernel
theorem own_d4_112 : decode prog_96_method_2_code 112 = .ok (.lstore_n 3, 1) := by decide +kernel
theorem own_d4_113 : decode prog_96_method_2_code 113 = .ok (.aload_n 0, 1) := by decide +kernel
theorem own_d4_114 : decode prog_96_method_2_code 114 = .ok (.iconst 5, 1) := by decide +kernel
theorem own_d4_115 : decode prog_96_method_2_code 115 = .ok (.lload_n 3, 1) := by decide +kernel
theorem own_d4_116 : decode prog_96_method_2_code 116 = .ok (.ldc2_w 9, 3) := by decide +kernel
theorem own_d4_119 : decode prog_96_method_2_code 119 = .ok (.land, 1) := by decide +kernel
theorem own_d4_120 : decode prog_96_method_2_code 120 = .ok (.lastore, 1) := by decide +kernel
theorem own_d4_121 : decode prog_96_method_2_code 121 = .ok (.lload_n 3, 1) := by decide +kernel
theorem own_d4_122 : decode prog_96_method_2_code 122 = .ok (.bipush 32, 2) := by decide +kernel
theorem own_d4_124 : decode prog_96_method_2_code 124 = .ok (.lushr, 1) := by decide +kernel
theorem own_d4_125 : decode prog_96_method_2_code 125 = .ok (.aload_n 1, 1) := by decide +kernel
theorem own_d4_126 : decode prog_96_method_2_code 126 = .ok (.bipush 6, 2) := by decide +kernel
theorem own_d4_128 : decode prog_96_method_2_code 128 = .ok (.laload, 1) := by decide +kernel
theorem own_d4_129 : decode prog_96_method_2_code 129 = .ok (.ladd, 1) := by decide +kernel
theorem own_d4_130 : decode prog_96_method_2_code 130 = .ok (.aload_n 2, 1) := by decide +kernel
theorem own_d4_131 : decode prog_96_method_2_code 131 = .ok (.bipush 6, 2) := by decide +kernel
theorem own_d4_133 : decode prog_96_method_2_code 133 = .ok (.laload, 1) := by decide +kernel
theorem own_d4_134 : decode prog_96_method_2_code 134 = .ok (.ladd, 1) := by decide +kernel
theorem own_d4_135 : decode prog_96_method_2_code 135 = .ok (.lstore_n 3, 1) := by decide +kernel
theorem own_d4_136 : decode prog_96_method_2_code 136 = .ok (.aload_n 0, 1) := by decide +kernel
theorem own_d4_137 : decode prog_96_method_2_code 137 = .ok (.bipush 6, 2) := by decide +kernel
theorem own_d4_139 : decode prog_96_method_2_code 139 = .ok (.lload_n 3, 1) := by decide +kernel
theorem own_d4_140 : decode prog_96_method_2_code 140 = .ok (.ldc2_w 9, 3) := by decide +kernel
theorem own_d4_143 : decode prog_96_method_2_code 143 = .ok (.land, 1) := by decide +kernel
theorem own_d4_144 : decode prog_96_method_2_code 144 = .ok (.lastore, 1) := by decide +kernel
theorem own_d4_145 : decode prog_96_method_2_code 145 = .ok (.lload_n 3, 1) := by decide +kernel
theorem own_d4_146 : decode prog_96_method_2_code 146 = .ok (.bipush 32, 2) := by decide +kernel
theorem own_d4_148 : decode prog_96_method_2_code 148 = .ok (.lushr, 1) := by decide +kernel
theorem own_d4_149 : decode prog_96_method_2_code 149 = .ok (.aload_n 1, 1) := by decide +kernel
theorem own_d4_150 : decode prog_96_method_2_code 150 = .ok (.bipush 7, 2) := by decide +kernel
theorem own_d4_152 : decode prog_96_method_2_code 152 = .ok (.laload, 1) := by decide +kernel
theorem own_d4_153 : decode prog_96_method_2_code 153 = .ok (.ladd, 1) := by decide +kernel
theorem own_d4_154 : decode prog_96_method_2_code 154 = .ok (.aload_n 2, 1) := by decide +kernel
theorem own_d4_155 : decode prog_96_method_2_code 155 = .ok (.bipush 7, 2) := by decide +kernel
theorem own_d4_157 : decode prog_96_method_2_code 157 = .ok (.laload, 1) := by decide +kernel
theorem own_d4_158 : decode prog_96_method_2_code 158 = .ok (.ladd, 1) := by decide +kernel
theorem own_d4_159 : decode prog_96_method_2_code 159 = .ok (.lstore_n 3, 1) := by decide +kernel
theorem own_d4_160 : decode prog_96_method_2_code 160 = .ok (.aload_n 0, 1) := by decide +kernel
theorem own_d4_161 : decode prog_96_method_2_code 161 = .ok (.bipush 7, 2) := by decide +kernel
theorem own_d4_163 : decode prog_96_method_2_code 163 = .ok (.lload_n 3, 1) := by decide +kernel
theorem own_d4_164 : decode prog_96_method_2_code 164 = .ok (.ldc2_w 9, 3) := by decide +kernel
theorem own_d4_167 : decode prog_96_method_2_code 167 = .ok (.land, 1) := by decide +kernel
theorem own_d4_168 : decode prog_96_method_2_code 168 = .ok (.lastore, 1) := by decide +kernel
theorem own_d4_169 : decode prog_96_method_2_code 169 = .ok (.lload_n 3, 1) := by decide +kernel
theorem own_d4_170 : decode prog_96_method_2_code 170 = .ok (.bipush 32, 2) := by decide +kernel
theorem own_d4_172 : decode prog_96_method_2_code 172 = .ok (.lushr, 1) := by decide +kernel
theorem own_d4_173 : decode prog_96_method_2_code 173 = .ok (.lreturn, 1) := by decide +kernel
theorem own_ef4 (a1 : Addr) (a2 : Addr) (a3 : Addr) (m : MethodId) : entryFrame m #[(.ref a1), (.ref a2), (.ref a3)] 5 = mkF m 0 #[.val (.ref a1), .val (.ref a2), .val (.ref a3), .unset, .unset] [] := by first | (simp [entryFrame, mkF, argsToLocals, Value.category]; done) | rfl
theorem own_pf4 : plainFor (⟨"marketmint/Words256", "add", "([J[J[J)J"⟩ : MethodName) = true := by first | exact plainFor_of_name (by first | (simp [plainName, overriddenIn]; done) | decide +kernel) | decide +kernel
def own_v4_15 (x0 : Int64) (y0 : Int64) : Int64 := ((x0 + y0) &&& (4294967295 : Int64))
def own_v4_28 (x0 : Int64) (x1 : Int64) (y0 : Int64) (y1 : Int64) : Int64 := (((((x0 + y0).toUInt64 >>> (32 : UInt64)).toInt64) + x1) + y1)
def own_v4_36 (x0 : Int64) (x1 : Int64) (y0 : Int64) (y1 : Int64) : Int64 := ((own_v4_28 x0 x1 y0 y1) &&& (4294967295 : Int64))
def own_v4_49 (x0 : Int64) (x1 : Int64) (x2 : Int64) (y0 : Int64) (y1 : Int64) (y2 : Int64) : Int64 := (((((own_v4_28 x0 x1 y0 y1).toUInt64 >>> (32 : UInt64)).toInt64) + x2) + y2)
def own_v4_57 (x0 : Int64) (x1 : Int64) (x2 : Int64) (y0 : Int64) (y1 : Int64) (y2 : Int64) : Int64 := ((own_v4_49 x0 x1 x2 y0 y1 y2) &&& (4294967295 : Int64))
def own_v4_70 (x0 : Int64) (x1 : Int64) (x2 : Int64) (x3 : Int64) (y0 : Int64) (y1 : Int64) (y2 : Int64) (y3 : Int64) : Int64 := (((((own_v4_49 x0 x1 x2 y0 y1 y2).toUInt64 >>> (32 : UInt64)).toInt64) + x3) + y3)
def own_v4_78 (x0 : Int64) (x1 : Int64) (x2 : Int64) (x3 : Int64) (y0 : Int64) (y1 : Int64) (y2 : Int64) (y3 : Int64) : Int64 := ((own_v4_70 x0 x1 x2 x3 y0 y1 y2 y3) &&& (4294967295 : Int64))
def own_v4_91 (x0 : Int64) (x1 : Int64) (x2 : Int64) (x3 : Int64) (x4 : Int64) (y0 : Int64) (y1 : Int64) (y2 : Int64) (y3 : Int64) (y4 : Int64) : Int64 := (((((own_v4_70 x0 x1 x2 x3 y0 y1 y2 y3).toUInt64 >>> (32 : UInt64)).toInt64) + x4) + y4)
def own_v4_99 (x0 : Int64) (x1 : Int64) (x2 : Int64) (x3 : Int64) (x4 : Int64) (y0 : Int64) (y1 : Int64) (y2 : Int64) (y3 : Int64) (y4 : Int64) : Int64 := ((own_v4_91 x0 x1 x2 x3 x4 y0 y1 y2 y3 y4) &&& (4294967295 : Int64))
def own_v4_112 (x0 : Int64) (x1 : Int64) (x2 : Int64) (x3 : Int64) (x4 : Int64) (x5 : Int64) (y0 : Int64) (y1 : Int64) (y2 : Int64) (y3 : Int64) (y4 : Int64) (y5 : Int64) : Int64 := (((((own_v4_91 x0 x1 x2 x3 x4 y0 y1 y2 y3 y4).toUInt64 >>> (32 : UInt64)).toInt64) + x5) + y5)
def own_v4_120 (x0 : Int64) (x1 : Int64) (x2 : Int64) (x3 : Int64) (x4 : Int64) (x5 : Int64) (y0 : Int64) (y1 : Int64) (y2 : Int64) (y3 : Int64) (y4 : Int64) (y5 : Int64) : Int64 := ((own_v4_112 x0 x1 x2 x3 x4 x5 y0 y1 y2 y3 y4 y5) &&& (4294967295 : Int64))
def own_v4_135 (x0 : Int64) (x1 : Int64) (x2 : Int64) (x3 : Int64) (x4 : Int64) (x5 : Int64) (x6 : Int64) (y0 : Int64) (y1 : Int64) (y2 : Int64) (y3 : Int64) (y4 : Int64) (y5 : Int64) (y6 : Int64) : Int64 := (((((own_v4_112 x0 x1 x2 x3 x4 x5 y0 y1 y2 y3 y4 y5).toUInt64 >>> (32 : UInt64)).toInt64) + x6) + y6)
def own_v4_144 (x0 : Int64) (x1 : Int64) (x2 : Int64) (x3 : Int64) (x4 : Int64) (x5 : Int64) (x6 : Int64) (y0 : Int64) (y1 : Int64) (y2 : Int64) (y3 : Int64) (y4 : Int64) (y5 : Int64) (y6 : Int64) : Int64 := ((own_v4_135 x0 x1 x2 x3 x4 x5 x6 y0 y1 y2 y3 y4 y5 y6) &&& (4294967295 : Int64))
def own_v4_159 (x0 : Int64) (x1 : Int64) (x2 : Int64) (x3 : Int64) (x4 : Int64) (x5 : Int64) (x6 : Int64) (x7 : Int64) (y0 : Int64) (y1 : Int64) (y2 : Int64) (y3 : Int64) (y4 : Int64) (y5 : Int64) (y6 : Int64) (y7 : Int64) : Int64 := (((((own_v4_135 x0 x1 x2 x3 x4 x5 x6 y0 y1 y2 y3 y4 y5 y6).toUInt64 >>> (32 : UInt64)).toInt64) + x7) + y7)
def own_v4_168 (x0 : Int64) (x1 : Int64) (x2 : Int64) (x3 : Int64) (x4 : Int64) (x5 : Int64) (x6 : Int64) (x7 : Int64) (y0 : Int64) (y1 : Int64) (y2 : Int64) (y3 : Int64) (y4 : Int64) (y5 : Int64) (y6 : Int64) (y7 : Int64) : Int64 := ((own_v4_159 x0 x1 x2 x3 x4 x5 x6 x7 y0 y1 y2 y3 y4 y5 y6 y7) &&& (4294967295 : Int64))
def own_F4 (r0 : Int64) (r1 : Int64) (r2 : Int64) (r3 : Int64) (r4 : Int64) (r5 : Int64) (r6 : Int64) (r7 : Int64) (x0 : Int64) (x1 : Int64) (x2 : Int64) (x3 : Int64) (x4 : Int64) (x5 : Int64) (x6 : Int64) (x7 : Int64) (y0 : Int64) (y1 : Int64) (y2 : Int64) (y3 : Int64) (y4 : Int64) (y5 : Int64) (y6 : Int64) (y7 : Int64) : Int64 := (((own_v4_159 x0 x1 x2 x3 x4 x5 x6 x7 y0 y1 y2 y3 y4 y5 y6 y7).toUInt64 >>> (32 : UInt64)).toInt64)
set_option maxRecDepth 65536 in
set_option maxHeartbeats 40000000 in
theorem own_rm4 (l : Launch) (Z : State) (a0 : Array Value) (hw : ∀ d ∈ tables_1, d.before a0 Z = true) (a1 : Addr) (r0 : Int64) (r1 : Int64) (r2 : Int64) (r3 : Int64) (r4 : Int64) (r5 : Int64) (r6 : Int64) (r7 : Int64) (a2 : Addr) (x0 : Int64) (x1 : Int64) (x2 : Int64) (x3 : Int64) (x4 : Int64) (x5 : Int64) (x6 : Int64) (x7 : Int64) (a3 : Addr) (y0 : Int64) (y1 : Int64) (y2 : Int64) (y3 : Int64) (y4 : Int64) (y5 : Int64) (y6 : Int64) (y7 : Int64) (h0 : Heap) (n0 : Nat) (Z0 : n0 ≤ h0.size) (V_a1 : own_W Z h0 a1 (8 : Int32) [r0, r1, r2, r3, r4, r5, r6, r7]) (V_a2 : own_W Z h0 a2 (8 : Int32) [x0, x1, x2, x3, x4, x5, x6, x7]) (V_a3 : own_W Z h0 a3 (8 : Int32) [y0, y1, y2, y3, y4, y5, y6, y7]) (n21 : a2 ≠ a1) (n31 : a3 ≠ a1) (g_a1 : n0 ≤ a1) :
    own_Con l Z (⟨"marketmint/Words256", "add", "([J[J[J)J"⟩ : MethodName) prog_96_method_2_code 5 (some .long) ({ frames := 0, cells := 0, slots := 0, locals := 0 } : Room) #[(.ref a1), (.ref a2), (.ref a3)] h0 n0 (fun v h => v = some (.long (own_F4 r0 r1 r2 r3 r4 r5 r6 r7 x0 x1 x2 x3 x4 x5 x6 x7 y0 y1 y2 y3 y4 y5 y6 y7)) ∧ Keep h0 h [a1] ∧ own_W Z h a1 (8 : Int32) [(own_v4_15 x0 y0), (own_v4_36 x0 x1 y0 y1), (own_v4_57 x0 x1 x2 y0 y1 y2), (own_v4_78 x0 x1 x2 x3 y0 y1 y2 y3), (own_v4_99 x0 x1 x2 x3 x4 y0 y1 y2 y3 y4), (own_v4_120 x0 x1 x2 x3 x4 x5 y0 y1 y2 y3 y4 y5), (own_v4_144 x0 x1 x2 x3 x4 x5 x6 y0 y1 y2 y3 y4 y5 y6), (own_v4_168 x0 x1 x2 x3 x4 x5 x6 x7 y0 y1 y2 y3 y4 y5 y6 y7)]) := by
  refine own_enter own_pf4 Z0 (own_ef4 a1 a2 a3) ?_
  intro p e s m below meth c T0 X0 hret hnm
  refine own_aloadN X0 own_d4_0 (pc' := 1) rfl (v := (.ref a2)) rfl rfl ?_
  refine own_iconst X0 own_d4_1 (pc' := 2) rfl (z := (0 : Int32)) rfl ?_
  refine own_laload X0 V_a2 (by decide) (by decide) (y := x0) rfl own_d4_2 (pc' := 3) rfl ?_
  refine own_aloadN X0 own_d4_3 (pc' := 4) rfl (v := (.ref a3)) rfl rfl ?_
  refine own_iconst X0 own_d4_4 (pc' := 5) rfl (z := (0 : Int32)) rfl ?_
  refine own_laload X0 V_a3 (by decide) (by decide) (y := y0) rfl own_d4_5 (pc' := 6) rfl ?_
  refine own_ladd X0 own_d4_6 (pc' := 7) rfl (z := (x0 + y0)) rfl ?_
  refine own_lstoreN X0 own_d4_7 (pc' := 8) rfl (y := (x0 + y0)) rfl (Ls' := #[.val (.ref a1), .val (.ref a2), .val (.ref a3), .val (.long (x0 + y0)), .second]) rfl ?_
  refine own_aloadN X0 own_d4_8 (pc' := 9) rfl (v := (.ref a1)) rfl rfl ?_
  refine own_iconst X0 own_d4_9 (pc' := 10) rfl (z := (0 : Int32)) rfl ?_
  refine own_lloadN X0 own_d4_10 (pc' := 11) rfl (v := (x0 + y0)) rfl ?_
  refine own_ldc2 X0 (hw _ (List.mem_of_getElem? (i := 11) rfl)) own_d4_11 (pc' := 14) rfl ?_
  refine own_land X0 own_d4_14 (pc' := 15) rfl (z := ((x0 + y0) &&& (4294967295 : Int64))) rfl ?_
  refine own_lastore X0 V_a1 g_a1 (x := (own_v4_15 x0 y0)) rfl 0 rfl (by decide) (by decide) own_d4_15 (pc' := 16) rfl fun T1 h2 lc4 X3 W5 V6 => ?_
  replace V6 : own_W Z h2 a1 (8 : Int32) [(own_v4_15 x0 y0), r1, r2, r3, r4, r5, r6, r7] := V6
  have V7 := V_a2.other W5 n21
  have V8 := V_a3.other W5 n31
  have K9 := Keep.wr (Keep.refl h0 [a1]) W5 (Or.inl (List.mem_of_getElem? (i := 0) rfl))
  refine own_lloadN X3 own_d4_16 (pc' := 17) rfl (v := (x0 + y0)) rfl ?_
  refine own_bipush X3 own_d4_17 (pc' := 19) rfl (z := (32 : Int32)) rfl ?_
  refine own_lushr X3 own_d4_19 (pc' := 20) rfl (z := (((x0 + y0).toUInt64 >>> (32 : UInt64)).toInt64)) rfl ?_
  refine own_aloadN X3 own_d4_20 (pc' := 21) rfl (v := (.ref a2)) rfl rfl ?_
  refine own_iconst X3 own_d4_21 (pc' := 22) rfl (z := (1 : Int32)) rfl ?_
  refine own_laload X3 V7 (by decide) (by decide) (y := x1) rfl own_d4_22 (pc' := 23) rfl ?_
  refine own_ladd X3 own_d4_23 (pc' := 24) rfl (z := ((((x0 + y0).toUInt64 >>> (32 : UInt64)).toInt64) + x1)) rfl ?_
  refine own_aloadN X3 own_d4_24 (pc' := 25) rfl (v := (.ref a3)) rfl rfl ?_
  refine own_iconst X3 own_d4_25 (pc' := 26) rfl (z := (1 : Int32)) rfl ?_
  refine own_laload X3 V8 (by decide) (by decide) (y := y1) rfl own_d4_26 (pc' := 27) rfl ?_
  refine own_ladd X3 own_d4_27 (pc' := 28) rfl (z := (((((x0 + y0).toUInt64 >>> (32 : UInt64)).toInt64) + x1) + y1)) rfl ?_
  refine own_lstoreN X3 own_d4_28 (pc' := 29) rfl (y := (own_v4_28 x0 x1 y0 y1)) rfl (Ls' := #[.val (.ref a1), .val (.ref a2), .val (.ref a3), .val (.long (own_v4_28 x0 x1 y0 y1)), .second]) rfl ?_
  refine own_aloadN X3 own_d4_29 (pc' := 30) rfl (v := (.ref a1)) rfl rfl ?_
  refine own_iconst X3 own_d4_30 (pc' := 31) rfl (z := (1 : Int32)) rfl ?_
  refine own_lloadN X3 own_d4_31 (pc' := 32) rfl (v := (own_v4_28 x0 x1 y0 y1)) rfl ?_
  refine own_ldc2 X3 (hw _ (List.mem_of_getElem? (i := 11) rfl)) own_d4_32 (pc' := 35) rfl ?_
  refine own_land X3 own_d4_35 (pc' := 36) rfl (z := ((own_v4_28 x0 x1 y0 y1) &&& (4294967295 : Int64))) rfl ?_
  refine own_lastore X3 V6 g_a1 (x := (own_v4_36 x0 x1 y0 y1)) rfl 1 rfl (by decide) (by decide) own_d4_36 (pc' := 37) rfl fun T10 h11 lc13 X12 W14 V15 => ?_
  replace V15 : own_W Z h11 a1 (8 : Int32) [(own_v4_15 x0 y0), (own_v4_36 x0 x1 y0 y1), r2, r3, r4, r5, r6, r7] := V15
  have V16 := V7.other W14 n21
  have V17 := V8.other W14 n31
  have K18 := Keep.wr K9 W14 (Or.inl (List.mem_of_getElem? (i := 0) rfl))
  refine own_lloadN X12 own_d4_37 (pc' := 38) rfl (v := (own_v4_28 x0 x1 y0 y1)) rfl ?_
  refine own_bipush X12 own_d4_38 (pc' := 40) rfl (z := (32 : Int32)) rfl ?_
  refine own_lushr X12 own_d4_40 (pc' := 41) rfl (z := (((own_v4_28 x0 x1 y0 y1).toUInt64 >>> (32 : UInt64)).toInt64)) rfl ?_
  refine own_aloadN X12 own_d4_41 (pc' := 42) rfl (v := (.ref a2)) rfl rfl ?_
  refine own_iconst X12 own_d4_42 (pc' := 43) rfl (z := (2 : Int32)) rfl ?_
  refine own_laload X12 V16 (by decide) (by decide) (y := x2) rfl own_d4_43 (pc' := 44) rfl ?_
  refine own_ladd X12 own_d4_44 (pc' := 45) rfl (z := ((((own_v4_28 x0 x1 y0 y1).toUInt64 >>> (32 : UInt64)).toInt64) + x2)) rfl ?_
  refine own_aloadN X12 own_d4_45 (pc' := 46) rfl (v := (.ref a3)) rfl rfl ?_
  refine own_iconst X12 own_d4_46 (pc' := 47) rfl (z := (2 : Int32)) rfl ?_
  refine own_laload X12 V17 (by decide) (by decide) (y := y2) rfl own_d4_47 (pc' := 48) rfl ?_
  refine own_ladd X12 own_d4_48 (pc' := 49) rfl (z := (((((own_v4_28 x0 x1 y0 y1).toUInt64 >>> (32 : UInt64)).toInt64) + x2) + y2)) rfl ?_
  refine own_lstoreN X12 own_d4_49 (pc' := 50) rfl (y := (own_v4_49 x0 x1 x2 y0 y1 y2)) rfl (Ls' := #[.val (.ref a1), .val (.ref a2), .val (.ref a3), .val (.long (own_v4_49 x0 x1 x2 y0 y1 y2)), .second]) rfl ?_
  refine own_aloadN X12 own_d4_50 (pc' := 51) rfl (v := (.ref a1)) rfl rfl ?_
  refine own_iconst X12 own_d4_51 (pc' := 52) rfl (z := (2 : Int32)) rfl ?_
  refine own_lloadN X12 own_d4_52 (pc' := 53) rfl (v := (own_v4_49 x0 x1 x2 y0 y1 y2)) rfl ?_
  refine own_ldc2 X12 (hw _ (List.mem_of_getElem? (i := 11) rfl)) own_d4_53 (pc' := 56) rfl ?_
  refine own_land X12 own_d4_56 (pc' := 57) rfl (z := ((own_v4_49 x0 x1 x2 y0 y1 y2) &&& (4294967295 : Int64))) rfl ?_
  refine own_lastore X12 V15 g_a1 (x := (own_v4_57 x0 x1 x2 y0 y1 y2)) rfl 2 rfl (by decide) (by decide) own_d4_57 (pc' := 58) rfl fun T19 h20 lc22 X21 W23 V24 => ?_
  replace V24 : own_W Z h20 a1 (8 : Int32) [(own_v4_15 x0 y0), (own_v4_36 x0 x1 y0 y1), (own_v4_57 x0 x1 x2 y0 y1 y2), r3, r4, r5, r6, r7] := V24
  have V25 := V16.other W23 n21
  have V26 := V17.other W23 n31
  have K27 := Keep.wr K18 W23 (Or.inl (List.mem_of_getElem? (i := 0) rfl))
  refine own_lloadN X21 own_d4_58 (pc' := 59) rfl (v := (own_v4_49 x0 x1 x2 y0 y1 y2)) rfl ?_
  refine own_bipush X21 own_d4_59 (pc' := 61) rfl (z := (32 : Int32)) rfl ?_
  refine own_lushr X21 own_d4_61 (pc' := 62) rfl (z := (((own_v4_49 x0 x1 x2 y0 y1 y2).toUInt64 >>> (32 : UInt64)).toInt64)) rfl ?_
  refine own_aloadN X21 own_d4_62 (pc' := 63) rfl (v := (.ref a2)) rfl rfl ?_
  refine own_iconst X21 own_d4_63 (pc' := 64) rfl (z := (3 : Int32)) rfl ?_
  refine own_laload X21 V25 (by decide) (by decide) (y := x3) rfl own_d4_64 (pc' := 65) rfl ?_
  refine own_ladd X21 own_d4_65 (pc' := 66) rfl (z := ((((own_v4_49 x0 x1 x2 y0 y1 y2).toUInt64 >>> (32 : UInt64)).toInt64) + x3)) rfl ?_
  refine own_aloadN X21 own_d4_66 (pc' := 67) rfl (v := (.ref a3)) rfl rfl ?_
  refine own_iconst X21 own_d4_67 (pc' := 68) rfl (z := (3 : Int32)) rfl ?_
  refine own_laload X21 V26 (by decide) (by decide) (y := y3) rfl own_d4_68 (pc' := 69) rfl ?_
  refine own_ladd X21 own_d4_69 (pc' := 70) rfl (z := (((((own_v4_49 x0 x1 x2 y0 y1 y2).toUInt64 >>> (32 : UInt64)).toInt64) + x3) + y3)) rfl ?_
  refine own_lstoreN X21 own_d4_70 (pc' := 71) rfl (y := (own_v4_70 x0 x1 x2 x3 y0 y1 y2 y3)) rfl (Ls' := #[.val (.ref a1), .val (.ref a2), .val (.ref a3), .val (.long (own_v4_70 x0 x1 x2 x3 y0 y1 y2 y3)), .second]) rfl ?_
  refine own_aloadN X21 own_d4_71 (pc' := 72) rfl (v := (.ref a1)) rfl rfl ?_
  refine own_iconst X21 own_d4_72 (pc' := 73) rfl (z := (3 : Int32)) rfl ?_
  refine own_lloadN X21 own_d4_73 (pc' := 74) rfl (v := (own_v4_70 x0 x1 x2 x3 y0 y1 y2 y3)) rfl ?_
  refine own_ldc2 X21 (hw _ (List.mem_of_getElem? (i := 11) rfl)) own_d4_74 (pc' := 77) rfl ?_
  refine own_land X21 own_d4_77 (pc' := 78) rfl (z := ((own_v4_70 x0 x1 x2 x3 y0 y1 y2 y3) &&& (4294967295 : Int64))) rfl ?_
  refine own_lastore X21 V24 g_a1 (x := (own_v4_78 x0 x1 x2 x3 y0 y1 y2 y3)) rfl 3 rfl (by decide) (by decide) own_d4_78 (pc' := 79) rfl fun T28 h29 lc31 X30 W32 V33 => ?_
  replace V33 : own_W Z h29 a1 (8 : Int32) [(own_v4_15 x0 y0), (own_v4_36 x0 x1 y0 y1), (own_v4_57 x0 x1 x2 y0 y1 y2), (own_v4_78 x0 x1 x2 x3 y0 y1 y2 y3), r4, r5, r6, r7] := V33
  have V34 := V25.other W32 n21
  have V35 := V26.other W32 n31
  have K36 := Keep.wr K27 W32 (Or.inl (List.mem_of_getElem? (i := 0) rfl))
  refine own_lloadN X30 own_d4_79 (pc' := 80) rfl (v := (own_v4_70 x0 x1 x2 x3 y0 y1 y2 y3)) rfl ?_
  refine own_bipush X30 own_d4_80 (pc' := 82) rfl (z := (32 : Int32)) rfl ?_
  refine own_lushr X30 own_d4_82 (pc' := 83) rfl (z := (((own_v4_70 x0 x1 x2 x3 y0 y1 y2 y3).toUInt64 >>> (32 : UInt64)).toInt64)) rfl ?_
  refine own_aloadN X30 own_d4_83 (pc' := 84) rfl (v := (.ref a2)) rfl rfl ?_
  refine own_iconst X30 own_d4_84 (pc' := 85) rfl (z := (4 : Int32)) rfl ?_
  refine own_laload X30 V34 (by decide) (by decide) (y := x4) rfl own_d4_85 (pc' := 86) rfl ?_
  refine own_ladd X30 own_d4_86 (pc' := 87) rfl (z := ((((own_v4_70 x0 x1 x2 x3 y0 y1 y2 y3).toUInt64 >>> (32 : UInt64)).toInt64) + x4)) rfl ?_
  refine own_aloadN X30 own_d4_87 (pc' := 88) rfl (v := (.ref a3)) rfl rfl ?_
  refine own_iconst X30 own_d4_88 (pc' := 89) rfl (z := (4 : Int32)) rfl ?_
  refine own_laload X30 V35 (by decide) (by decide) (y := y4) rfl own_d4_89 (pc' := 90) rfl ?_
  refine own_ladd X30 own_d4_90 (pc' := 91) rfl (z := (((((own_v4_70 x0 x1 x2 x3 y0 y1 y2 y3).toUInt64 >>> (32 : UInt64)).toInt64) + x4) + y4)) rfl ?_
  refine own_lstoreN X30 own_d4_91 (pc' := 92) rfl (y := (own_v4_91 x0 x1 x2 x3 x4 y0 y1 y2 y3 y4)) rfl (Ls' := #[.val (.ref a1), .val (.ref a2), .val (.ref a3), .val (.long (own_v4_91 x0 x1 x2 x3 x4 y0 y1 y2 y3 y4)), .second]) rfl ?_
  refine own_aloadN X30 own_d4_92 (pc' := 93) rfl (v := (.ref a1)) rfl rfl ?_
  refine own_iconst X30 own_d4_93 (pc' := 94) rfl (z := (4 : Int32)) rfl ?_
  refine own_lloadN X30 own_d4_94 (pc' := 95) rfl (v := (own_v4_91 x0 x1 x2 x3 x4 y0 y1 y2 y3 y4)) rfl ?_
  refine own_ldc2 X30 (hw _ (List.mem_of_getElem? (i := 11) rfl)) own_d4_95 (pc' := 98) rfl ?_
  refine own_land X30 own_d4_98 (pc' := 99) rfl (z := ((own_v4_91 x0 x1 x2 x3 x4 y0 y1 y2 y3 y4) &&& (4294967295 : Int64))) rfl ?_
  refine own_lastore X30 V33 g_a1 (x := (own_v4_99 x0 x1 x2 x3 x4 y0 y1 y2 y3 y4)) rfl 4 rfl (by decide) (by decide) own_d4_99 (pc' := 100) rfl fun T37 h38 lc40 X39 W41 V42 => ?_
  replace V42 : own_W Z h38 a1 (8 : Int32) [(own_v4_15 x0 y0), (own_v4_36 x0 x1 y0 y1), (own_v4_57 x0 x1 x2 y0 y1 y2), (own_v4_78 x0 x1 x2 x3 y0 y1 y2 y3), (own_v4_99 x0 x1 x2 x3 x4 y0 y1 y2 y3 y4), r5, r6, r7] := V42
  have V43 := V34.other W41 n21
  have V44 := V35.other W41 n31
  have K45 := Keep.wr K36 W41 (Or.inl (List.mem_of_getElem? (i := 0) rfl))
  refine own_lloadN X39 own_d4_100 (pc' := 101) rfl (v := (own_v4_91 x0 x1 x2 x3 x4 y0 y1 y2 y3 y4)) rfl ?_
  refine own_bipush X39 own_d4_101 (pc' := 103) rfl (z := (32 : Int32)) rfl ?_
  refine own_lushr X39 own_d4_103 (pc' := 104) rfl (z := (((own_v4_91 x0 x1 x2 x3 x4 y0 y1 y2 y3 y4).toUInt64 >>> (32 : UInt64)).toInt64)) rfl ?_
  refine own_aloadN X39 own_d4_104 (pc' := 105) rfl (v := (.ref a2)) rfl rfl ?_
  refine own_iconst X39 own_d4_105 (pc' := 106) rfl (z := (5 : Int32)) rfl ?_
  refine own_laload X39 V43 (by decide) (by decide) (y := x5) rfl own_d4_106 (pc' := 107) rfl ?_
  refine own_ladd X39 own_d4_107 (pc' := 108) rfl (z := ((((own_v4_91 x0 x1 x2 x3 x4 y0 y1 y2 y3 y4).toUInt64 >>> (32 : UInt64)).toInt64) + x5)) rfl ?_
  refine own_aloadN X39 own_d4_108 (pc' := 109) rfl (v := (.ref a3)) rfl rfl ?_
  refine own_iconst X39 own_d4_109 (pc' := 110) rfl (z := (5 : Int32)) rfl ?_
  refine own_laload X39 V44 (by decide) (by decide) (y := y5) rfl own_d4_110 (pc' := 111) rfl ?_
  refine own_ladd X39 own_d4_111 (pc' := 112) rfl (z := (((((own_v4_91 x0 x1 x2 x3 x4 y0 y1 y2 y3 y4).toUInt64 >>> (32 : UInt64)).toInt64) + x5) + y5)) rfl ?_
  refine own_lstoreN X39 own_d4_112 (pc' := 113) rfl (y := (own_v4_112 x0 x1 x2 x3 x4 x5 y0 y1 y2 y3 y4 y5)) rfl (Ls' := #[.val (.ref a1), .val (.ref a2), .val (.ref a3), .val (.long (own_v4_112 x0 x1 x2 x3 x4 x5 y0 y1 y2 y3 y4 y5)), .second]) rfl ?_
  refine own_aloadN X39 own_d4_113 (pc' := 114) rfl (v := (.ref a1)) rfl rfl ?_
  refine own_iconst X39 own_d4_114 (pc' := 115) rfl (z := (5 : Int32)) rfl ?_
  refine own_lloadN X39 own_d4_115 (pc' := 116) rfl (v := (own_v4_112 x0 x1 x2 x3 x4 x5 y0 y1 y2 y3 y4 y5)) rfl ?_
  refine own_ldc2 X39 (hw _ (List.mem_of_getElem? (i := 11) rfl)) own_d4_116 (pc' := 119) rfl ?_
  refine own_land X39 own_d4_119 (pc' := 120) rfl (z := ((own_v4_112 x0 x1 x2 x3 x4 x5 y0 y1 y2 y3 y4 y5) &&& (4294967295 : Int64))) rfl ?_
  refine own_lastore X39 V42 g_a1 (x := (own_v4_120 x0 x1 x2 x3 x4 x5 y0 y1 y2 y3 y4 y5)) rfl 5 rfl (by decide) (by decide) own_d4_120 (pc' := 121) rfl fun T46 h47 lc49 X48 W50 V51 => ?_
  replace V51 : own_W Z h47 a1 (8 : Int32) [(own_v4_15 x0 y0), (own_v4_36 x0 x1 y0 y1), (own_v4_57 x0 x1 x2 y0 y1 y2), (own_v4_78 x0 x1 x2 x3 y0 y1 y2 y3), (own_v4_99 x0 x1 x2 x3 x4 y0 y1 y2 y3 y4), (own_v4_120 x0 x1 x2 x3 x4 x5 y0 y1 y2 y3 y4 y5), r6, r7] := V51
  have V52 := V43.other W50 n21
  have V53 := V44.other W50 n31
  have K54 := Keep.wr K45 W50 (Or.inl (List.mem_of_getElem? (i := 0) rfl))
  refine own_lloadN X48 own_d4_121 (pc' := 122) rfl (v := (own_v4_112 x0 x1 x2 x3 x4 x5 y0 y1 y2 y3 y4 y5)) rfl ?_
  refine own_bipush X48 own_d4_122 (pc' := 124) rfl (z := (32 : Int32)) rfl ?_
  refine own_lushr X48 own_d4_124 (pc' := 125) rfl (z := (((own_v4_112 x0 x1 x2 x3 x4 x5 y0 y1 y2 y3 y4 y5).toUInt64 >>> (32 : UInt64)).toInt64)) rfl ?_
  refine own_aloadN X48 own_d4_125 (pc' := 126) rfl (v := (.ref a2)) rfl rfl ?_
  refine own_bipush X48 own_d4_126 (pc' := 128) rfl (z := (6 : Int32)) rfl ?_
  refine own_laload X48 V52 (by decide) (by decide) (y := x6) rfl own_d4_128 (pc' := 129) rfl ?_
  refine own_ladd X48 own_d4_129 (pc' := 130) rfl (z := ((((own_v4_112 x0 x1 x2 x3 x4 x5 y0 y1 y2 y3 y4 y5).toUInt64 >>> (32 : UInt64)).toInt64) + x6)) rfl ?_
  refine own_aloadN X48 own_d4_130 (pc' := 131) rfl (v := (.ref a3)) rfl rfl ?_
  refine own_bipush X48 own_d4_131 (pc' := 133) rfl (z := (6 : Int32)) rfl ?_
  refine own_laload X48 V53 (by decide) (by decide) (y := y6) rfl own_d4_133 (pc' := 134) rfl ?_
  refine own_ladd X48 own_d4_134 (pc' := 135) rfl (z := (((((own_v4_112 x0 x1 x2 x3 x4 x5 y0 y1 y2 y3 y4 y5).toUInt64 >>> (32 : UInt64)).toInt64) + x6) + y6)) rfl ?_
  refine own_lstoreN X48 own_d4_135 (pc' := 136) rfl (y := (own_v4_135 x0 x1 x2 x3 x4 x5 x6 y0 y1 y2 y3 y4 y5 y6)) rfl (Ls' := #[.val (.ref a1), .val (.ref a2), .val (.ref a3), .val (.long (own_v4_135 x0 x1 x2 x3 x4 x5 x6 y0 y1 y2 y3 y4 y5 y6)), .second]) rfl ?_
  refine own_aloadN X48 own_d4_136 (pc' := 137) rfl (v := (.ref a1)) rfl rfl ?_
  refine own_bipush X48 own_d4_137 (pc' := 139) rfl (z := (6 : Int32)) rfl ?_
  refine own_lloadN X48 own_d4_139 (pc' := 140) rfl (v := (own_v4_135 x0 x1 x2 x3 x4 x5 x6 y0 y1 y2 y3 y4 y5 y6)) rfl ?_
  refine own_ldc2 X48 (hw _ (List.mem_of_getElem? (i := 11) rfl)) own_d4_140 (pc' := 143) rfl ?_
  refine own_land X48 own_d4_143 (pc' := 144) rfl (z := ((own_v4_135 x0 x1 x2 x3 x4 x5 x6 y0 y1 y2 y3 y4 y5 y6) &&& (4294967295 : Int64))) rfl ?_
  refine own_lastore X48 V51 g_a1 (x := (own_v4_144 x0 x1 x2 x3 x4 x5 x6 y0 y1 y2 y3 y4 y5 y6)) rfl 6 rfl (by decide) (by decide) own_d4_144 (pc' := 145) rfl fun T55 h56 lc58 X57 W59 V60 => ?_
  replace V60 : own_W Z h56 a1 (8 : Int32) [(own_v4_15 x0 y0), (own_v4_36 x0 x1 y0 y1), (own_v4_57 x0 x1 x2 y0 y1 y2), (own_v4_78 x0 x1 x2 x3 y0 y1 y2 y3), (own_v4_99 x0 x1 x2 x3 x4 y0 y1 y2 y3 y4), (own_v4_120 x0 x1 x2 x3 x4 x5 y0 y1 y2 y3 y4 y5), (own_v4_144 x0 x1 x2 x3 x4 x5 x6 y0 y1 y2 y3 y4 y5 y6), r7] := V60
  have V61 := V52.other W59 n21
  have V62 := V53.other W59 n31
  have K63 := Keep.wr K54 W59 (Or.inl (List.mem_of_getElem? (i := 0) rfl))
  refine own_lloadN X57 own_d4_145 (pc' := 146) rfl (v := (own_v4_135 x0 x1 x2 x3 x4 x5 x6 y0 y1 y2 y3 y4 y5 y6)) rfl ?_
  refine own_bipush X57 own_d4_146 (pc' := 148) rfl (z := (32 : Int32)) rfl ?_
  refine own_lushr X57 own_d4_148 (pc' := 149) rfl (z := (((own_v4_135 x0 x1 x2 x3 x4 x5 x6 y0 y1 y2 y3 y4 y5 y6).toUInt64 >>> (32 : UInt64)).toInt64)) rfl ?_
  refine own_aloadN X57 own_d4_149 (pc' := 150) rfl (v := (.ref a2)) rfl rfl ?_
  refine own_bipush X57 own_d4_150 (pc' := 152) rfl (z := (7 : Int32)) rfl ?_
  refine own_laload X57 V61 (by decide) (by decide) (y := x7) rfl own_d4_152 (pc' := 153) rfl ?_
  refine own_ladd X57 own_d4_153 (pc' := 154) rfl (z := ((((own_v4_135 x0 x1 x2 x3 x4 x5 x6 y0 y1 y2 y3 y4 y5 y6).toUInt64 >>> (32 : UInt64)).toInt64) + x7)) rfl ?_
  refine own_aloadN X57 own_d4_154 (pc' := 155) rfl (v := (.ref a3)) rfl rfl ?_
  refine own_bipush X57 own_d4_155 (pc' := 157) rfl (z := (7 : Int32)) rfl ?_
  refine own_laload X57 V62 (by decide) (by decide) (y := y7) rfl own_d4_157 (pc' := 158) rfl ?_
  refine own_ladd X57 own_d4_158 (pc' := 159) rfl (z := (((((own_v4_135 x0 x1 x2 x3 x4 x5 x6 y0 y1 y2 y3 y4 y5 y6).toUInt64 >>> (32 : UInt64)).toInt64) + x7) + y7)) rfl ?_
  refine own_lstoreN X57 own_d4_159 (pc' := 160) rfl (y := (own_v4_159 x0 x1 x2 x3 x4 x5 x6 x7 y0 y1 y2 y3 y4 y5 y6 y7)) rfl (Ls' := #[.val (.ref a1), .val (.ref a2), .val (.ref a3), .val (.long (own_v4_159 x0 x1 x2 x3 x4 x5 x6 x7 y0 y1 y2 y3 y4 y5 y6 y7)), .second]) rfl ?_
  refine own_aloadN X57 own_d4_160 (pc' := 161) rfl (v := (.ref a1)) rfl rfl ?_
  refine own_bipush X57 own_d4_161 (pc' := 163) rfl (z := (7 : Int32)) rfl ?_
  refine own_lloadN X57 own_d4_163 (pc' := 164) rfl (v := (own_v4_159 x0 x1 x2 x3 x4 x5 x6 x7 y0 y1 y2 y3 y4 y5 y6 y7)) rfl ?_
  refine own_ldc2 X57 (hw _ (List.mem_of_getElem? (i := 11) rfl)) own_d4_164 (pc' := 167) rfl ?_
  refine own_land X57 own_d4_167 (pc' := 168) rfl (z := ((own_v4_159 x0 x1 x2 x3 x4 x5 x6 x7 y0 y1 y2 y3 y4 y5 y6 y7) &&& (4294967295 : Int64))) rfl ?_
  refine own_lastore X57 V60 g_a1 (x := (own_v4_168 x0 x1 x2 x3 x4 x5 x6 x7 y0 y1 y2 y3 y4 y5 y6 y7)) rfl 7 rfl (by decide) (by decide) own_d4_168 (pc' := 169) rfl fun T64 h65 lc67 X66 W68 V69 => ?_
  replace V69 : own_W Z h65 a1 (8 : Int32) [(own_v4_15 x0 y0), (own_v4_36 x0 x1 y0 y1), (own_v4_57 x0 x1 x2 y0 y1 y2), (own_v4_78 x0 x1 x2 x3 y0 y1 y2 y3), (own_v4_99 x0 x1 x2 x3 x4 y0 y1 y2 y3 y4), (own_v4_120 x0 x1 x2 x3 x4 x5 y0 y1 y2 y3 y4 y5), (own_v4_144 x0 x1 x2 x3 x4 x5 x6 y0 y1 y2 y3 y4 y5 y6), (own_v4_168 x0 x1 x2 x3 x4 x5 x6 x7 y0 y1 y2 y3 y4 y5 y6 y7)] := V69
  have V70 := V61.other W68 n21
  have V71 := V62.other W68 n31
  have K72 := Keep.wr K63 W68 (Or.inl (List.mem_of_getElem? (i := 0) rfl))
  refine own_lloadN X66 own_d4_169 (pc' := 170) rfl (v := (own_v4_159 x0 x1 x2 x3 x4 x5 x6 x7 y0 y1 y2 y3 y4 y5 y6 y7)) rfl ?_
  refine own_bipush X66 own_d4_170 (pc' := 172) rfl (z := (32 : Int32)) rfl ?_
  refine own_lushr X66 own_d4_172 (pc' := 173) rfl (z := (((own_v4_159 x0 x1 x2 x3 x4 x5 x6 x7 y0 y1 y2 y3 y4 y5 y6 y7).toUInt64 >>> (32 : UInt64)).toInt64)) rfl ?_
  refine own_lret X66 hret own_d4_173 (by decide) (by decide) ?_
  exact ⟨congrArg (fun t => some (Value.long t)) (show (((own_v4_159 x0 x1 x2 x3 x4 x5 x6 x7 y0 y1 y2 y3 y4 y5 y6 y7).toUInt64 >>> (32 : UInt64)).toInt64) = own_F4 r0 r1 r2 r3 r4 r5 r6 r7 x0 x1 x2 x3 x4 x5 x6 x7 y0 y1 y2 y3 y4 y5 y6 y7 from rfl), K72, V69⟩
theorem own_pd0 : parseMethodDescriptor "(JIJJJJ)J" = some ⟨[.long, .int, .long, .long, .long, .long], some .long⟩ := by decide +kernel
theorem own_pd1 : parseMethodDescriptor "([J[J[J)J" = some ⟨[(.array .long), (.array .long), (.array .long)], some .long⟩ := by decide +kernel
theorem own_pd2 : parseMethodDescriptor "(J)Z" = some ⟨[.long], some .boolean⟩ := by decide +kernel
theorem own_ef0 (q1 : Int64) (q2 : Int64) (q3 : Int64) (q4 : Int64) (q5 : Int64) (q6 : Int64) (m : MethodId) : entryFrame m #[(.long q1), (.long q2), (.long q3), (.long q4), (.long q5), (.long q6)] maxLocals = mkF m 0 #[.val (.long q1), .second, .val (.long q2), .second, .val (.long q3), .second, .val (.long q4), .second, .val (.long q5), .second, .val (.long q6), .second, .unset, .unset, .unset, .unset, .unset, .unset, .unset, .unset, .unset, .unset, .unset, .unset, .unset, .unset, .unset, .unset, .unset] [] := by first | (simp [entryFrame, mkF, argsToLocals, Value.category, maxLocals]; done) | rfl
theorem own_pf0 : plainFor x = true := by first | exact plainFor_of_name (by first | (simp [plainName, overriddenIn]; done) | decide +kernel) | decide +kernel
def own_v0_14 (q1 : Int64) : Int64 := (q1 &&& (4294967295 : Int64))
def own_v0_22 (q1 : Int64) : Int64 := ((q1.toUInt64 >>> (32 : UInt64)).toInt64)
def own_v0_31 (q2 : Int64) : Int64 := (q2 &&& (4294967295 : Int64))
def own_v0_39 (q2 : Int64) : Int64 := ((q2.toUInt64 >>> (32 : UInt64)).toInt64)
def own_v0_49 (q3 : Int64) : Int64 := (q3 &&& (4294967295 : Int64))
def own_v0_58 (q3 : Int64) : Int64 := ((q3.toUInt64 >>> (32 : UInt64)).toInt64)
def own_v0_69 (q4 : Int64) : Int64 := (q4 &&& (4294967295 : Int64))
def own_v0_79 (q4 : Int64) : Int64 := ((q4.toUInt64 >>> (32 : UInt64)).toInt64)
def own_v0_86 (q5 : Int64) : Int64 := (q5 &&& (4294967295 : Int64))
def own_v0_93 (q5 : Int64) : Int64 := ((q5.toUInt64 >>> (32 : UInt64)).toInt64)
def own_v0_100 (q6 : Int64) : Int64 := ((q6.toUInt64 >>> (32 : UInt64)).toInt64)
def own_v0_124 (q1 : Int64) (q5 : Int64) (q6 : Int64) : Int64 := (own_F1 q6 (0 : Int32) (own_v0_14 q1) (own_v0_86 q5) (own_v0_93 q5) (own_v0_100 q6))
def own_v0_144 (q1 : Int64) (q5 : Int64) (q6 : Int64) : Int64 := (own_F1 q6 (1 : Int32) (own_v0_22 q1) (own_v0_86 q5) (own_v0_93 q5) (own_v0_100 q6))
def own_v0_164 (q2 : Int64) (q5 : Int64) (q6 : Int64) : Int64 := (own_F1 q6 (2 : Int32) (own_v0_31 q2) (own_v0_86 q5) (own_v0_93 q5) (own_v0_100 q6))
def own_v0_184 (q2 : Int64) (q5 : Int64) (q6 : Int64) : Int64 := (own_F1 q6 (3 : Int32) (own_v0_39 q2) (own_v0_86 q5) (own_v0_93 q5) (own_v0_100 q6))
def own_v0_204 (q3 : Int64) (q5 : Int64) (q6 : Int64) : Int64 := (own_F1 q6 (4 : Int32) (own_v0_49 q3) (own_v0_86 q5) (own_v0_93 q5) (own_v0_100 q6))
def own_v0_224 (q3 : Int64) (q5 : Int64) (q6 : Int64) : Int64 := (own_F1 q6 (5 : Int32) (own_v0_58 q3) (own_v0_86 q5) (own_v0_93 q5) (own_v0_100 q6))
def own_v0_247 (q4 : Int64) (q5 : Int64) (q6 : Int64) : Int64 := (own_F1 q6 (6 : Int32) (own_v0_69 q4) (own_v0_86 q5) (own_v0_93 q5) (own_v0_100 q6))
def own_v0_270 (q4 : Int64) (q5 : Int64) (q6 : Int64) : Int64 := (own_F1 q6 (7 : Int32) (own_v0_79 q4) (own_v0_86 q5) (own_v0_93 q5) (own_v0_100 q6))
def own_v0_440 (q1 : Int64) (q2 : Int64) (q3 : Int64) (q4 : Int64) (q5 : Int64) (q6 : Int64) : Int64 := (own_F2 (0 : Int64) (0 : Int64) (0 : Int64) (0 : Int64) (0 : Int64) (0 : Int64) (0 : Int64) (0 : Int64) (own_v0_14 q1) (own_v0_22 q1) (own_v0_31 q2) (own_v0_39 q2) (own_v0_49 q3) (own_v0_58 q3) (own_v0_69 q4) (own_v0_79 q4) (own_v0_124 q1 q5 q6) (own_v0_144 q1 q5 q6) (own_v0_164 q2 q5 q6) (own_v0_184 q2 q5 q6) (own_v0_204 q3 q5 q6) (own_v0_224 q3 q5 q6) (own_v0_247 q4 q5 q6) (own_v0_270 q4 q5 q6))
def own_v0_477 (q1 : Int64) (q5 : Int64) (q6 : Int64) : Int32 := (own_F3 (own_v2_36 (own_v0_14 q1) (own_v0_22 q1) (own_v0_124 q1 q5 q6) (own_v0_144 q1 q5 q6)))
def own_v0_487 (q1 : Int64) (q2 : Int64) (q5 : Int64) (q6 : Int64) : Int32 := (own_F3 (own_v2_57 (own_v0_14 q1) (own_v0_22 q1) (own_v0_31 q2) (own_v0_124 q1 q5 q6) (own_v0_144 q1 q5 q6) (own_v0_164 q2 q5 q6)))
def own_v0_497 (q1 : Int64) (q2 : Int64) (q5 : Int64) (q6 : Int64) : Int32 := (own_F3 (own_v2_78 (own_v0_14 q1) (own_v0_22 q1) (own_v0_31 q2) (own_v0_39 q2) (own_v0_124 q1 q5 q6) (own_v0_144 q1 q5 q6) (own_v0_164 q2 q5 q6) (own_v0_184 q2 q5 q6)))
def own_v0_507 (q1 : Int64) (q2 : Int64) (q3 : Int64) (q5 : Int64) (q6 : Int64) : Int32 := (own_F3 (own_v2_99 (own_v0_14 q1) (own_v0_22 q1) (own_v0_31 q2) (own_v0_39 q2) (own_v0_49 q3) (own_v0_124 q1 q5 q6) (own_v0_144 q1 q5 q6) (own_v0_164 q2 q5 q6) (own_v0_184 q2 q5 q6) (own_v0_204 q3 q5 q6)))
def own_v0_517 (q1 : Int64) (q2 : Int64) (q3 : Int64) (q5 : Int64) (q6 : Int64) : Int32 := (own_F3 (own_v2_120 (own_v0_14 q1) (own_v0_22 q1) (own_v0_31 q2) (own_v0_39 q2) (own_v0_49 q3) (own_v0_58 q3) (own_v0_124 q1 q5 q6) (own_v0_144 q1 q5 q6) (own_v0_164 q2 q5 q6) (own_v0_184 q2 q5 q6) (own_v0_204 q3 q5 q6) (own_v0_224 q3 q5 q6)))
def own_v0_528 (q1 : Int64) (q2 : Int64) (q3 : Int64) (q4 : Int64) (q5 : Int64) (q6 : Int64) : Int32 := (own_F3 (own_v2_144 (own_v0_14 q1) (own_v0_22 q1) (own_v0_31 q2) (own_v0_39 q2) (own_v0_49 q3) (own_v0_58 q3) (own_v0_69 q4) (own_v0_124 q1 q5 q6) (own_v0_144 q1 q5 q6) (own_v0_164 q2 q5 q6) (own_v0_184 q2 q5 q6) (own_v0_204 q3 q5 q6) (own_v0_224 q3 q5 q6) (own_v0_247 q4 q5 q6)))
def own_v0_539 (q1 : Int64) (q2 : Int64) (q3 : Int64) (q4 : Int64) (q5 : Int64) (q6 : Int64) : Int32 := (own_F3 (own_v2_168 (own_v0_14 q1) (own_v0_22 q1) (own_v0_31 q2) (own_v0_39 q2) (own_v0_49 q3) (own_v0_58 q3) (own_v0_69 q4) (own_v0_79 q4) (own_v0_124 q1 q5 q6) (own_v0_144 q1 q5 q6) (own_v0_164 q2 q5 q6) (own_v0_184 q2 q5 q6) (own_v0_204 q3 q5 q6) (own_v0_224 q3 q5 q6) (own_v0_247 q4 q5 q6) (own_v0_270 q4 q5 q6)))
def own_v0_767 (q1 : Int64) (q2 : Int64) (q3 : Int64) (q4 : Int64) (q5 : Int64) (q6 : Int64) : Int64 := (own_F4 (0 : Int64) (0 : Int64) (0 : Int64) (0 : Int64) (0 : Int64) (0 : Int64) (0 : Int64) (0 : Int64) (own_v2_15 (own_v0_14 q1) (own_v0_124 q1 q5 q6)) (own_v2_36 (own_v0_14 q1) (own_v0_22 q1) (own_v0_124 q1 q5 q6) (own_v0_144 q1 q5 q6)) (own_v2_57 (own_v0_14 q1) (own_v0_22 q1) (own_v0_31 q2) (own_v0_124 q1 q5 q6) (own_v0_144 q1 q5 q6) (own_v0_164 q2 q5 q6)) (own_v2_78 (own_v0_14 q1) (own_v0_22 q1) (own_v0_31 q2) (own_v0_39 q2) (own_v0_124 q1 q5 q6) (own_v0_144 q1 q5 q6) (own_v0_164 q2 q5 q6) (own_v0_184 q2 q5 q6)) (own_v2_99 (own_v0_14 q1) (own_v0_22 q1) (own_v0_31 q2) (own_v0_39 q2) (own_v0_49 q3) (own_v0_124 q1 q5 q6) (own_v0_144 q1 q5 q6) (own_v0_164 q2 q5 q6) (own_v0_184 q2 q5 q6) (own_v0_204 q3 q5 q6)) (own_v2_120 (own_v0_14 q1) (own_v0_22 q1) (own_v0_31 q2) (own_v0_39 q2) (own_v0_49 q3) (own_v0_58 q3) (own_v0_124 q1 q5 q6) (own_v0_144 q1 q5 q6) (own_v0_164 q2 q5 q6) (own_v0_184 q2 q5 q6) (own_v0_204 q3 q5 q6) (own_v0_224 q3 q5 q6)) (own_v2_144 (own_v0_14 q1) (own_v0_22 q1) (own_v0_31 q2) (own_v0_39 q2) (own_v0_49 q3) (own_v0_58 q3) (own_v0_69 q4) (own_v0_124 q1 q5 q6) (own_v0_144 q1 q5 q6) (own_v0_164 q2 q5 q6) (own_v0_184 q2 q5 q6) (own_v0_204 q3 q5 q6) (own_v0_224 q3 q5 q6) (own_v0_247 q4 q5 q6)) (own_v2_168 (own_v0_14 q1) (own_v0_22 q1) (own_v0_31 q2) (own_v0_39 q2) (own_v0_49 q3) (own_v0_58 q3) (own_v0_69 q4) (own_v0_79 q4) (own_v0_124 q1 q5 q6) (own_v0_144 q1 q5 q6) (own_v0_164 q2 q5 q6) (own_v0_184 q2 q5 q6) (own_v0_204 q3 q5 q6) (own_v0_224 q3 q5 q6) (own_v0_247 q4 q5 q6) (own_v0_270 q4 q5 q6)) (own_v0_124 q1 q5 q6) (own_v0_144 q1 q5 q6) (own_v0_164 q2 q5 q6) (own_v0_184 q2 q5 q6) (own_v0_204 q3 q5 q6) (own_v0_224 q3 q5 q6) (own_v0_247 q4 q5 q6) (own_v0_270 q4 q5 q6))
def own_F0 (q1 : Int64) (q2 : Int64) (q3 : Int64) (q4 : Int64) (q5 : Int64) (q6 : Int64) : Int32 := (if (own_v0_767 q1 q2 q3 q4 q5 q6) = (-(own_v0_440 q1 q2 q3 q4 q5 q6)) then (if (own_v4_15 (own_v2_15 (own_v0_14 q1) (own_v0_124 q1 q5 q6)) (own_v0_124 q1 q5 q6)) = (own_v0_14 q1) then (if (own_v4_36 (own_v2_15 (own_v0_14 q1) (own_v0_124 q1 q5 q6)) (own_v2_36 (own_v0_14 q1) (own_v0_22 q1) (own_v0_124 q1 q5 q6) (own_v0_144 q1 q5 q6)) (own_v0_124 q1 q5 q6) (own_v0_144 q1 q5 q6)) = (own_v0_22 q1) then (if (own_v4_57 (own_v2_15 (own_v0_14 q1) (own_v0_124 q1 q5 q6)) (own_v2_36 (own_v0_14 q1) (own_v0_22 q1) (own_v0_124 q1 q5 q6) (own_v0_144 q1 q5 q6)) (own_v2_57 (own_v0_14 q1) (own_v0_22 q1) (own_v0_31 q2) (own_v0_124 q1 q5 q6) (own_v0_144 q1 q5 q6) (own_v0_164 q2 q5 q6)) (own_v0_124 q1 q5 q6) (own_v0_144 q1 q5 q6) (own_v0_164 q2 q5 q6)) = (own_v0_31 q2) then (if (own_v4_78 (own_v2_15 (own_v0_14 q1) (own_v0_124 q1 q5 q6)) (own_v2_36 (own_v0_14 q1) (own_v0_22 q1) (own_v0_124 q1 q5 q6) (own_v0_144 q1 q5 q6)) (own_v2_57 (own_v0_14 q1) (own_v0_22 q1) (own_v0_31 q2) (own_v0_124 q1 q5 q6) (own_v0_144 q1 q5 q6) (own_v0_164 q2 q5 q6)) (own_v2_78 (own_v0_14 q1) (own_v0_22 q1) (own_v0_31 q2) (own_v0_39 q2) (own_v0_124 q1 q5 q6) (own_v0_144 q1 q5 q6) (own_v0_164 q2 q5 q6) (own_v0_184 q2 q5 q6)) (own_v0_124 q1 q5 q6) (own_v0_144 q1 q5 q6) (own_v0_164 q2 q5 q6) (own_v0_184 q2 q5 q6)) = (own_v0_39 q2) then (if (own_v4_99 (own_v2_15 (own_v0_14 q1) (own_v0_124 q1 q5 q6)) (own_v2_36 (own_v0_14 q1) (own_v0_22 q1) (own_v0_124 q1 q5 q6) (own_v0_144 q1 q5 q6)) (own_v2_57 (own_v0_14 q1) (own_v0_22 q1) (own_v0_31 q2) (own_v0_124 q1 q5 q6) (own_v0_144 q1 q5 q6) (own_v0_164 q2 q5 q6)) (own_v2_78 (own_v0_14 q1) (own_v0_22 q1) (own_v0_31 q2) (own_v0_39 q2) (own_v0_124 q1 q5 q6) (own_v0_144 q1 q5 q6) (own_v0_164 q2 q5 q6) (own_v0_184 q2 q5 q6)) (own_v2_99 (own_v0_14 q1) (own_v0_22 q1) (own_v0_31 q2) (own_v0_39 q2) (own_v0_49 q3) (own_v0_124 q1 q5 q6) (own_v0_144 q1 q5 q6) (own_v0_164 q2 q5 q6) (own_v0_184 q2 q5 q6) (own_v0_204 q3 q5 q6)) (own_v0_124 q1 q5 q6) (own_v0_144 q1 q5 q6) (own_v0_164 q2 q5 q6) (own_v0_184 q2 q5 q6) (own_v0_204 q3 q5 q6)) = (own_v0_49 q3) then (if (own_v4_120 (own_v2_15 (own_v0_14 q1) (own_v0_124 q1 q5 q6)) (own_v2_36 (own_v0_14 q1) (own_v0_22 q1) (own_v0_124 q1 q5 q6) (own_v0_144 q1 q5 q6)) (own_v2_57 (own_v0_14 q1) (own_v0_22 q1) (own_v0_31 q2) (own_v0_124 q1 q5 q6) (own_v0_144 q1 q5 q6) (own_v0_164 q2 q5 q6)) (own_v2_78 (own_v0_14 q1) (own_v0_22 q1) (own_v0_31 q2) (own_v0_39 q2) (own_v0_124 q1 q5 q6) (own_v0_144 q1 q5 q6) (own_v0_164 q2 q5 q6) (own_v0_184 q2 q5 q6)) (own_v2_99 (own_v0_14 q1) (own_v0_22 q1) (own_v0_31 q2) (own_v0_39 q2) (own_v0_49 q3) (own_v0_124 q1 q5 q6) (own_v0_144 q1 q5 q6) (own_v0_164 q2 q5 q6) (own_v0_184 q2 q5 q6) (own_v0_204 q3 q5 q6)) (own_v2_120 (own_v0_14 q1) (own_v0_22 q1) (own_v0_31 q2) (own_v0_39 q2) (own_v0_49 q3) (own_v0_58 q3) (own_v0_124 q1 q5 q6) (own_v0_144 q1 q5 q6) (own_v0_164 q2 q5 q6) (own_v0_184 q2 q5 q6) (own_v0_204 q3 q5 q6) (own_v0_224 q3 q5 q6)) (own_v0_124 q1 q5 q6) (own_v0_144 q1 q5 q6) (own_v0_164 q2 q5 q6) (own_v0_184 q2 q5 q6) (own_v0_204 q3 q5 q6) (own_v0_224 q3 q5 q6)) = (own_v0_58 q3) then (if (own_v4_144 (own_v2_15 (own_v0_14 q1) (own_v0_124 q1 q5 q6)) (own_v2_36 (own_v0_14 q1) (own_v0_22 q1) (own_v0_124 q1 q5 q6) (own_v0_144 q1 q5 q6)) (own_v2_57 (own_v0_14 q1) (own_v0_22 q1) (own_v0_31 q2) (own_v0_124 q1 q5 q6) (own_v0_144 q1 q5 q6) (own_v0_164 q2 q5 q6)) (own_v2_78 (own_v0_14 q1) (own_v0_22 q1) (own_v0_31 q2) (own_v0_39 q2) (own_v0_124 q1 q5 q6) (own_v0_144 q1 q5 q6) (own_v0_164 q2 q5 q6) (own_v0_184 q2 q5 q6)) (own_v2_99 (own_v0_14 q1) (own_v0_22 q1) (own_v0_31 q2) (own_v0_39 q2) (own_v0_49 q3) (own_v0_124 q1 q5 q6) (own_v0_144 q1 q5 q6) (own_v0_164 q2 q5 q6) (own_v0_184 q2 q5 q6) (own_v0_204 q3 q5 q6)) (own_v2_120 (own_v0_14 q1) (own_v0_22 q1) (own_v0_31 q2) (own_v0_39 q2) (own_v0_49 q3) (own_v0_58 q3) (own_v0_124 q1 q5 q6) (own_v0_144 q1 q5 q6) (own_v0_164 q2 q5 q6) (own_v0_184 q2 q5 q6) (own_v0_204 q3 q5 q6) (own_v0_224 q3 q5 q6)) (own_v2_144 (own_v0_14 q1) (own_v0_22 q1) (own_v0_31 q2) (own_v0_39 q2) (own_v0_49 q3) (own_v0_58 q3) (own_v0_69 q4) (own_v0_124 q1 q5 q6) (own_v0_144 q1 q5 q6) (own_v0_164 q2 q5 q6) (own_v0_184 q2 q5 q6) (own_v0_204 q3 q5 q6) (own_v0_224 q3 q5 q6) (own_v0_247 q4 q5 q6)) (own_v0_124 q1 q5 q6) (own_v0_144 q1 q5 q6) (own_v0_164 q2 q5 q6) (own_v0_184 q2 q5 q6) (own_v0_204 q3 q5 q6) (own_v0_224 q3 q5 q6) (own_v0_247 q4 q5 q6)) = (own_v0_69 q4) then (if (own_v4_168 (own_v2_15 (own_v0_14 q1) (own_v0_124 q1 q5 q6)) (own_v2_36 (own_v0_14 q1) (own_v0_22 q1) (own_v0_124 q1 q5 q6) (own_v0_144 q1 q5 q6)) (own_v2_57 (own_v0_14 q1) (own_v0_22 q1) (own_v0_31 q2) (own_v0_124 q1 q5 q6) (own_v0_144 q1 q5 q6) (own_v0_164 q2 q5 q6)) (own_v2_78 (own_v0_14 q1) (own_v0_22 q1) (own_v0_31 q2) (own_v0_39 q2) (own_v0_124 q1 q5 q6) (own_v0_144 q1 q5 q6) (own_v0_164 q2 q5 q6) (own_v0_184 q2 q5 q6)) (own_v2_99 (own_v0_14 q1) (own_v0_22 q1) (own_v0_31 q2) (own_v0_39 q2) (own_v0_49 q3) (own_v0_124 q1 q5 q6) (own_v0_144 q1 q5 q6) (own_v0_164 q2 q5 q6) (own_v0_184 q2 q5 q6) (own_v0_204 q3 q5 q6)) (own_v2_120 (own_v0_14 q1) (own_v0_22 q1) (own_v0_31 q2) (own_v0_39 q2) (own_v0_49 q3) (own_v0_58 q3) (own_v0_124 q1 q5 q6) (own_v0_144 q1 q5 q6) (own_v0_164 q2 q5 q6) (own_v0_184 q2 q5 q6) (own_v0_204 q3 q5 q6) (own_v0_224 q3 q5 q6)) (own_v2_144 (own_v0_14 q1) (own_v0_22 q1) (own_v0_31 q2) (own_v0_39 q2) (own_v0_49 q3) (own_v0_58 q3) (own_v0_69 q4) (own_v0_124 q1 q5 q6) (own_v0_144 q1 q5 q6) (own_v0_164 q2 q5 q6) (own_v0_184 q2 q5 q6) (own_v0_204 q3 q5 q6) (own_v0_224 q3 q5 q6) (own_v0_247 q4 q5 q6)) (own_v2_168 (own_v0_14 q1) (own_v0_22 q1) (own_v0_31 q2) (own_v0_39 q2) (own_v0_49 q3) (own_v0_58 q3) (own_v0_69 q4) (own_v0_79 q4) (own_v0_124 q1 q5 q6) (own_v0_144 q1 q5 q6) (own_v0_164 q2 q5 q6) (own_v0_184 q2 q5 q6) (own_v0_204 q3 q5 q6) (own_v0_224 q3 q5 q6) (own_v0_247 q4 q5 q6) (own_v0_270 q4 q5 q6)) (own_v0_124 q1 q5 q6) (own_v0_144 q1 q5 q6) (own_v0_164 q2 q5 q6) (own_v0_184 q2 q5 q6) (own_v0_204 q3 q5 q6) (own_v0_224 q3 q5 q6) (own_v0_247 q4 q5 q6) (own_v0_270 q4 q5 q6)) = (own_v0_79 q4) then (1 : Int32) else (0 : Int32)) else (0 : Int32)) else (0 : Int32)) else (0 : Int32)) else (0 : Int32)) else (0 : Int32)) else (0 : Int32)) else (0 : Int32)) else (0 : Int32))
-- LEMMAS
theorem own_shrL (a : Int64) : (a >>> (32 : Int64)).toInt = a.toInt / 4294967296 := by
  show (a.toBitVec.sshiftRight' ((32 : Int64).toBitVec.smod (BitVec.ofNat 64 64))).toInt = _
  rw [BitVec.toInt_sshiftRight', Int.shiftRight_eq_div_pow]; rfl
def own_In (a : Int64) : Prop := 0 ≤ a.toInt ∧ a.toInt < 4294967296
theorem own_loI (v : Int64) : (v &&& (4294967295 : Int64)).toInt = v.toInt % 4294967296 := own_mkL (k := 32) (by decide) (by decide)
theorem own_inLo (v : Int64) : own_In (v &&& (4294967295 : Int64)) := by have := own_loI v; exact ⟨by omega, by omega⟩
theorem own_hiI {v : Int64} (h : 0 ≤ v.toInt) : ((v.toUInt64 >>> (32 : UInt64)).toInt64).toInt = v.toInt / 4294967296 := by
  have l := own_U_lt v
  have u2 := own_U_hi v
  have i1 := own_U_int v
  have i2 := own_U_int ((v.toUInt64 >>> (32 : UInt64)).toInt64)
  rw [u2, if_pos (by omega)] at i2
  rw [i2]
  by_cases c : own_U v < 9223372036854775808
  · rw [if_pos c] at i1; omega
  · rw [if_neg c] at i1; omega
theorem own_inHi (v : Int64) : own_In ((v.toUInt64 >>> (32 : UInt64)).toInt64) := by
  have l := own_U_lt v
  have u2 := own_U_hi v
  have i2 := own_U_int ((v.toUInt64 >>> (32 : UInt64)).toInt64)
  rw [u2, if_pos (by omega)] at i2
  exact ⟨by omega, by omega⟩
theorem own_stp {k a b c r u t : Int64} {K : Int} (hk : k.toInt = K) (hK : -1 ≤ K ∧ K ≤ 0) (ha : own_In a) (hb : own_In b) (ht : t = k + a - b) (hc : c.toInt = -K) (hr : r = t &&& (4294967295 : Int64)) (hu : u = c + r + b) :
    ∃ K' : Int, (-1 ≤ K' ∧ K' ≤ 0) ∧ (t >>> (32 : Int64)).toInt = K' ∧ (u &&& (4294967295 : Int64)) = a ∧ ((u.toUInt64 >>> (32 : UInt64)).toInt64).toInt = -K' := by
  obtain ⟨a0, a1⟩ := ha
  obtain ⟨b0, b1⟩ := hb
  have e1 : t.toInt = K + a.toInt - b.toInt := by rw [ht]; exact own_SL (own_AL hk rfl (by omega) (by omega)) rfl (by omega) (by omega)
  have e2 : r.toInt = (K + a.toInt - b.toInt) % 4294967296 := by rw [hr, own_loI, e1]
  have e3 : u.toInt = -K + (K + a.toInt - b.toInt) % 4294967296 + b.toInt := by rw [hu]; exact own_AL (own_AL hc e2 (by omega) (by omega)) rfl (by omega) (by omega)
  refine ⟨(K + a.toInt - b.toInt) / 4294967296, ⟨by omega, by omega⟩, by rw [own_shrL, e1], ?_, ?_⟩
  · rw [own_eqL, own_loI, e3]; omega
  · rw [own_hiI (by omega), e3]; omega
theorem own_stp0 {a b r u t : Int64} (ha : own_In a) (hb : own_In b) (ht : t = a - b) (hr : r = t &&& (4294967295 : Int64)) (hu : u = r + b) :
    ∃ K' : Int, (-1 ≤ K' ∧ K' ≤ 0) ∧ (t >>> (32 : Int64)).toInt = K' ∧ (u &&& (4294967295 : Int64)) = a ∧ ((u.toUInt64 >>> (32 : UInt64)).toInt64).toInt = -K' :=
  own_stp (k := 0) (c := 0) (K := 0) rfl (by decide) ha hb (by rw [ht, Int64.zero_add]) rfl hr (by rw [hu, Int64.zero_add])
theorem own_all8 {x0 x1 x2 x3 x4 x5 x6 x7 y0 y1 y2 y3 y4 y5 y6 y7 : Int64} (hx0 : own_In x0) (hx1 : own_In x1) (hx2 : own_In x2) (hx3 : own_In x3) (hx4 : own_In x4) (hx5 : own_In x5) (hx6 : own_In x6) (hx7 : own_In x7) (hy0 : own_In y0) (hy1 : own_In y1) (hy2 : own_In y2) (hy3 : own_In y3) (hy4 : own_In y4) (hy5 : own_In y5) (hy6 : own_In y6) (hy7 : own_In y7) : ∃ K' : Int, (-1 ≤ K' ∧ K' ≤ 0) ∧ ((own_v2_159 x0 x1 x2 x3 x4 x5 x6 x7 y0 y1 y2 y3 y4 y5 y6 y7) >>> (32 : Int64)).toInt = K' ∧ (((own_v4_159 (own_v2_15 x0 y0) (own_v2_36 x0 x1 y0 y1) (own_v2_57 x0 x1 x2 y0 y1 y2) (own_v2_78 x0 x1 x2 x3 y0 y1 y2 y3) (own_v2_99 x0 x1 x2 x3 x4 y0 y1 y2 y3 y4) (own_v2_120 x0 x1 x2 x3 x4 x5 y0 y1 y2 y3 y4 y5) (own_v2_144 x0 x1 x2 x3 x4 x5 x6 y0 y1 y2 y3 y4 y5 y6) (own_v2_168 x0 x1 x2 x3 x4 x5 x6 x7 y0 y1 y2 y3 y4 y5 y6 y7) y0 y1 y2 y3 y4 y5 y6 y7).toUInt64 >>> (32 : UInt64)).toInt64).toInt = -K' ∧ (own_v4_15 (own_v2_15 x0 y0) y0) = x0 ∧ (own_v4_36 (own_v2_15 x0 y0) (own_v2_36 x0 x1 y0 y1) y0 y1) = x1 ∧ (own_v4_57 (own_v2_15 x0 y0) (own_v2_36 x0 x1 y0 y1) (own_v2_57 x0 x1 x2 y0 y1 y2) y0 y1 y2) = x2 ∧ (own_v4_78 (own_v2_15 x0 y0) (own_v2_36 x0 x1 y0 y1) (own_v2_57 x0 x1 x2 y0 y1 y2) (own_v2_78 x0 x1 x2 x3 y0 y1 y2 y3) y0 y1 y2 y3) = x3 ∧ (own_v4_99 (own_v2_15 x0 y0) (own_v2_36 x0 x1 y0 y1) (own_v2_57 x0 x1 x2 y0 y1 y2) (own_v2_78 x0 x1 x2 x3 y0 y1 y2 y3) (own_v2_99 x0 x1 x2 x3 x4 y0 y1 y2 y3 y4) y0 y1 y2 y3 y4) = x4 ∧ (own_v4_120 (own_v2_15 x0 y0) (own_v2_36 x0 x1 y0 y1) (own_v2_57 x0 x1 x2 y0 y1 y2) (own_v2_78 x0 x1 x2 x3 y0 y1 y2 y3) (own_v2_99 x0 x1 x2 x3 x4 y0 y1 y2 y3 y4) (own_v2_120 x0 x1 x2 x3 x4 x5 y0 y1 y2 y3 y4 y5) y0 y1 y2 y3 y4 y5) = x5 ∧ (own_v4_144 (own_v2_15 x0 y0) (own_v2_36 x0 x1 y0 y1) (own_v2_57 x0 x1 x2 y0 y1 y2) (own_v2_78 x0 x1 x2 x3 y0 y1 y2 y3) (own_v2_99 x0 x1 x2 x3 x4 y0 y1 y2 y3 y4) (own_v2_120 x0 x1 x2 x3 x4 x5 y0 y1 y2 y3 y4 y5) (own_v2_144 x0 x1 x2 x3 x4 x5 x6 y0 y1 y2 y3 y4 y5 y6) y0 y1 y2 y3 y4 y5 y6) = x6 ∧ (own_v4_168 (own_v2_15 x0 y0) (own_v2_36 x0 x1 y0 y1) (own_v2_57 x0 x1 x2 y0 y1 y2) (own_v2_78 x0 x1 x2 x3 y0 y1 y2 y3) (own_v2_99 x0 x1 x2 x3 x4 y0 y1 y2 y3 y4) (own_v2_120 x0 x1 x2 x3 x4 x5 y0 y1 y2 y3 y4 y5) (own_v2_144 x0 x1 x2 x3 x4 x5 x6 y0 y1 y2 y3 y4 y5 y6) (own_v2_168 x0 x1 x2 x3 x4 x5 x6 x7 y0 y1 y2 y3 y4 y5 y6 y7) y0 y1 y2 y3 y4 y5 y6 y7) = x7 := by
  obtain ⟨K0, l0, k0, e0, c0⟩ := own_stp0 (t := (x0 - y0)) (r := (own_v2_15 x0 y0)) (u := ((own_v2_15 x0 y0) + y0)) hx0 hy0 rfl rfl rfl
  obtain ⟨K1, l1, k1, e1, c1⟩ := own_stp (t := (own_v2_28 x0 x1 y0 y1)) (r := (own_v2_36 x0 x1 y0 y1)) (u := (own_v4_28 (own_v2_15 x0 y0) (own_v2_36 x0 x1 y0 y1) y0 y1)) k0 l0 hx1 hy1 rfl c0 rfl rfl
  obtain ⟨K2, l2, k2, e2, c2⟩ := own_stp (t := (own_v2_49 x0 x1 x2 y0 y1 y2)) (r := (own_v2_57 x0 x1 x2 y0 y1 y2)) (u := (own_v4_49 (own_v2_15 x0 y0) (own_v2_36 x0 x1 y0 y1) (own_v2_57 x0 x1 x2 y0 y1 y2) y0 y1 y2)) k1 l1 hx2 hy2 rfl c1 rfl rfl
  obtain ⟨K3, l3, k3, e3, c3⟩ := own_stp (t := (own_v2_70 x0 x1 x2 x3 y0 y1 y2 y3)) (r := (own_v2_78 x0 x1 x2 x3 y0 y1 y2 y3)) (u := (own_v4_70 (own_v2_15 x0 y0) (own_v2_36 x0 x1 y0 y1) (own_v2_57 x0 x1 x2 y0 y1 y2) (own_v2_78 x0 x1 x2 x3 y0 y1 y2 y3) y0 y1 y2 y3)) k2 l2 hx3 hy3 rfl c2 rfl rfl
  obtain ⟨K4, l4, k4, e4, c4⟩ := own_stp (t := (own_v2_91 x0 x1 x2 x3 x4 y0 y1 y2 y3 y4)) (r := (own_v2_99 x0 x1 x2 x3 x4 y0 y1 y2 y3 y4)) (u := (own_v4_91 (own_v2_15 x0 y0) (own_v2_36 x0 x1 y0 y1) (own_v2_57 x0 x1 x2 y0 y1 y2) (own_v2_78 x0 x1 x2 x3 y0 y1 y2 y3) (own_v2_99 x0 x1 x2 x3 x4 y0 y1 y2 y3 y4) y0 y1 y2 y3 y4)) k3 l3 hx4 hy4 rfl c3 rfl rfl
  obtain ⟨K5, l5, k5, e5, c5⟩ := own_stp (t := (own_v2_112 x0 x1 x2 x3 x4 x5 y0 y1 y2 y3 y4 y5)) (r := (own_v2_120 x0 x1 x2 x3 x4 x5 y0 y1 y2 y3 y4 y5)) (u := (own_v4_112 (own_v2_15 x0 y0) (own_v2_36 x0 x1 y0 y1) (own_v2_57 x0 x1 x2 y0 y1 y2) (own_v2_78 x0 x1 x2 x3 y0 y1 y2 y3) (own_v2_99 x0 x1 x2 x3 x4 y0 y1 y2 y3 y4) (own_v2_120 x0 x1 x2 x3 x4 x5 y0 y1 y2 y3 y4 y5) y0 y1 y2 y3 y4 y5)) k4 l4 hx5 hy5 rfl c4 rfl rfl
  obtain ⟨K6, l6, k6, e6, c6⟩ := own_stp (t := (own_v2_135 x0 x1 x2 x3 x4 x5 x6 y0 y1 y2 y3 y4 y5 y6)) (r := (own_v2_144 x0 x1 x2 x3 x4 x5 x6 y0 y1 y2 y3 y4 y5 y6)) (u := (own_v4_135 (own_v2_15 x0 y0) (own_v2_36 x0 x1 y0 y1) (own_v2_57 x0 x1 x2 y0 y1 y2) (own_v2_78 x0 x1 x2 x3 y0 y1 y2 y3) (own_v2_99 x0 x1 x2 x3 x4 y0 y1 y2 y3 y4) (own_v2_120 x0 x1 x2 x3 x4 x5 y0 y1 y2 y3 y4 y5) (own_v2_144 x0 x1 x2 x3 x4 x5 x6 y0 y1 y2 y3 y4 y5 y6) y0 y1 y2 y3 y4 y5 y6)) k5 l5 hx6 hy6 rfl c5 rfl rfl
  obtain ⟨K7, l7, k7, e7, c7⟩ := own_stp (t := (own_v2_159 x0 x1 x2 x3 x4 x5 x6 x7 y0 y1 y2 y3 y4 y5 y6 y7)) (r := (own_v2_168 x0 x1 x2 x3 x4 x5 x6 x7 y0 y1 y2 y3 y4 y5 y6 y7)) (u := (own_v4_159 (own_v2_15 x0 y0) (own_v2_36 x0 x1 y0 y1) (own_v2_57 x0 x1 x2 y0 y1 y2) (own_v2_78 x0 x1 x2 x3 y0 y1 y2 y3) (own_v2_99 x0 x1 x2 x3 x4 y0 y1 y2 y3 y4) (own_v2_120 x0 x1 x2 x3 x4 x5 y0 y1 y2 y3 y4 y5) (own_v2_144 x0 x1 x2 x3 x4 x5 x6 y0 y1 y2 y3 y4 y5 y6) (own_v2_168 x0 x1 x2 x3 x4 x5 x6 x7 y0 y1 y2 y3 y4 y5 y6 y7) y0 y1 y2 y3 y4 y5 y6 y7)) k6 l6 hx7 hy7 rfl c6 rfl rfl
  exact ⟨K7, l7, k7, c7, e0, e1, e2, e3, e4, e5, e6, e7⟩
theorem own_pk {s : Int64} {i : Int32} {a b c d : Int64} (ha : own_In a) (hb : own_In b) (hc : own_In c) (hd : own_In d) : own_In (own_F1 s i a b c d) := by
  rw [own_F1]; split
  · exact ha
  · split
    · exact hb
    · split
      · exact hc
      · exact hd
theorem own_bor (q1 q2 q3 q4 q5 q6 : Int64) (h : ¬ own_v0_440 q1 q2 q3 q4 q5 q6 = (0 : Int64)) : own_v0_440 q1 q2 q3 q4 q5 q6 = (-1 : Int64) := by
  obtain ⟨K, l, k, -⟩ := own_all8 (x0 := own_v0_14 q1) (x1 := own_v0_22 q1) (x2 := own_v0_31 q2) (x3 := own_v0_39 q2) (x4 := own_v0_49 q3) (x5 := own_v0_58 q3) (x6 := own_v0_69 q4) (x7 := own_v0_79 q4) (y0 := own_v0_124 q1 q5 q6) (y1 := own_v0_144 q1 q5 q6) (y2 := own_v0_164 q2 q5 q6) (y3 := own_v0_184 q2 q5 q6) (y4 := own_v0_204 q3 q5 q6) (y5 := own_v0_224 q3 q5 q6) (y6 := own_v0_247 q4 q5 q6) (y7 := own_v0_270 q4 q5 q6) (own_inLo q1) (own_inHi q1) (own_inLo q2) (own_inHi q2) (own_inLo q3) (own_inHi q3) (own_inLo q4) (own_inHi q4) (own_pk (own_inLo q1) (own_inLo q5) (own_inHi q5) (own_inHi q6)) (own_pk (own_inHi q1) (own_inLo q5) (own_inHi q5) (own_inHi q6)) (own_pk (own_inLo q2) (own_inLo q5) (own_inHi q5) (own_inHi q6)) (own_pk (own_inHi q2) (own_inLo q5) (own_inHi q5) (own_inHi q6)) (own_pk (own_inLo q3) (own_inLo q5) (own_inHi q5) (own_inHi q6)) (own_pk (own_inHi q3) (own_inLo q5) (own_inHi q5) (own_inHi q6)) (own_pk (own_inLo q4) (own_inLo q5) (own_inHi q5) (own_inHi q6)) (own_pk (own_inHi q4) (own_inLo q5) (own_inHi q5) (own_inHi q6))
  have k' : (own_v0_440 q1 q2 q3 q4 q5 q6).toInt = K := k
  have e0 : (0 : Int64).toInt = 0 := rfl
  have e1 : (-1 : Int64).toInt = -1 := rfl
  rw [own_eqL] at *; omega
theorem own_inw (v : Int64) : ¬ own_F3 (v &&& (4294967295 : Int64)) = (0 : Int32) := by
  have h := own_inLo v
  have e0 : (0 : Int64).toInt = 0 := rfl
  have e1 : (4294967295 : Int64).toInt = 4294967295 := rfl
  rw [own_F3, if_neg (by rw [own_ltL]; have := h.1; omega), if_neg (by rw [own_ltL]; have := h.2; omega)]; decide
-- END LEMMAS
set_option maxRecDepth 65536 in
set_option maxHeartbeats 40000000 in
theorem own_rm0 (l : Launch) (Z : State) (a0 : Array Value) (hw : ∀ d ∈ tables_1, d.before a0 Z = true) (q1 : Int64) (q2 : Int64) (q3 : Int64) (q4 : Int64) (q5 : Int64) (q6 : Int64) (h0 : Heap) (n0 : Nat) (Z0 : n0 ≤ h0.size) :
    own_Con l Z x code maxLocals ret room_1 #[(.long q1), (.long q2), (.long q3), (.long q4), (.long q5), (.long q6)] h0 n0 (fun v h => v = some (.int (own_F0 q1 q2 q3 q4 q5 q6))) := by
  refine own_enter own_pf0 Z0 (own_ef0 q1 q2 q3 q4 q5 q6) ?_
  intro p e s m below meth c T0 X0 hret hnm
  refine own_bipush X0 at_0 (pc' := 2) rfl (z := (8 : Int32)) rfl ?_
  refine own_newW X0 (hw _ (List.mem_of_getElem? (i := 0) rfl)) (by decide) 8 (by decide) (by decide) (by decide) (by decide) at_2 (pc' := 4) rfl fun T2 h3 b1 X4 Ex5 hs6 g7 V8 => ?_
  replace V8 : own_W Z h3 b1 (8 : Int32) [(0 : Int64), (0 : Int64), (0 : Int64), (0 : Int64), (0 : Int64), (0 : Int64), (0 : Int64), (0 : Int64)] := V8
  refine own_astore X4 at_4 (pc' := 6) rfl rfl (Ls' := #[.val (.long q1), .second, .val (.long q2), .second, .val (.long q3), .second, .val (.long q4), .second, .val (.long q5), .second, .val (.long q6), .second, .val (.ref b1), .unset, .unset, .unset, .unset, .unset, .unset, .unset, .unset, .unset, .unset, .unset, .unset, .unset, .unset, .unset, .unset]) rfl ?_
  refine own_aload X4 at_6 (pc' := 8) rfl (v := (.ref b1)) rfl rfl ?_
  refine own_iconst X4 at_8 (pc' := 9) rfl (z := (0 : Int32)) rfl ?_
  refine own_lloadN X4 at_9 (pc' := 10) rfl (v := q1) rfl ?_
  refine own_ldc2 X4 (hw _ (List.mem_of_getElem? (i := 1) rfl)) at_10 (pc' := 13) rfl ?_
  refine own_land X4 at_13 (pc' := 14) rfl (z := (q1 &&& (4294967295 : Int64))) rfl ?_
  refine own_lastore X4 V8 g7 (x := (own_v0_14 q1)) rfl 0 rfl (by decide) (by decide) at_14 (pc' := 15) rfl fun T9 h10 lc12 X11 W13 V14 => ?_
  replace V14 : own_W Z h10 b1 (8 : Int32) [(own_v0_14 q1), (0 : Int64), (0 : Int64), (0 : Int64), (0 : Int64), (0 : Int64), (0 : Int64), (0 : Int64)] := V14
  refine own_aload X11 at_15 (pc' := 17) rfl (v := (.ref b1)) rfl rfl ?_
  refine own_iconst X11 at_17 (pc' := 18) rfl (z := (1 : Int32)) rfl ?_
  refine own_lloadN X11 at_18 (pc' := 19) rfl (v := q1) rfl ?_
  refine own_bipush X11 at_19 (pc' := 21) rfl (z := (32 : Int32)) rfl ?_
  refine own_lushr X11 at_21 (pc' := 22) rfl (z := ((q1.toUInt64 >>> (32 : UInt64)).toInt64)) rfl ?_
  refine own_lastore X11 V14 g7 (x := (own_v0_22 q1)) rfl 1 rfl (by decide) (by decide) at_22 (pc' := 23) rfl fun T15 h16 lc18 X17 W19 V20 => ?_
  replace V20 : own_W Z h16 b1 (8 : Int32) [(own_v0_14 q1), (own_v0_22 q1), (0 : Int64), (0 : Int64), (0 : Int64), (0 : Int64), (0 : Int64), (0 : Int64)] := V20
  refine own_aload X17 at_23 (pc' := 25) rfl (v := (.ref b1)) rfl rfl ?_
  refine own_iconst X17 at_25 (pc' := 26) rfl (z := (2 : Int32)) rfl ?_
  refine own_lloadN X17 at_26 (pc' := 27) rfl (v := q2) rfl ?_
  refine own_ldc2 X17 (hw _ (List.mem_of_getElem? (i := 1) rfl)) at_27 (pc' := 30) rfl ?_
  refine own_land X17 at_30 (pc' := 31) rfl (z := (q2 &&& (4294967295 : Int64))) rfl ?_
  refine own_lastore X17 V20 g7 (x := (own_v0_31 q2)) rfl 2 rfl (by decide) (by decide) at_31 (pc' := 32) rfl fun T21 h22 lc24 X23 W25 V26 => ?_
  replace V26 : own_W Z h22 b1 (8 : Int32) [(own_v0_14 q1), (own_v0_22 q1), (own_v0_31 q2), (0 : Int64), (0 : Int64), (0 : Int64), (0 : Int64), (0 : Int64)] := V26
  refine own_aload X23 at_32 (pc' := 34) rfl (v := (.ref b1)) rfl rfl ?_
  refine own_iconst X23 at_34 (pc' := 35) rfl (z := (3 : Int32)) rfl ?_
  refine own_lloadN X23 at_35 (pc' := 36) rfl (v := q2) rfl ?_
  refine own_bipush X23 at_36 (pc' := 38) rfl (z := (32 : Int32)) rfl ?_
  refine own_lushr X23 at_38 (pc' := 39) rfl (z := ((q2.toUInt64 >>> (32 : UInt64)).toInt64)) rfl ?_
  refine own_lastore X23 V26 g7 (x := (own_v0_39 q2)) rfl 3 rfl (by decide) (by decide) at_39 (pc' := 40) rfl fun T27 h28 lc30 X29 W31 V32 => ?_
  replace V32 : own_W Z h28 b1 (8 : Int32) [(own_v0_14 q1), (own_v0_22 q1), (own_v0_31 q2), (own_v0_39 q2), (0 : Int64), (0 : Int64), (0 : Int64), (0 : Int64)] := V32
  refine own_aload X29 at_40 (pc' := 42) rfl (v := (.ref b1)) rfl rfl ?_
  refine own_iconst X29 at_42 (pc' := 43) rfl (z := (4 : Int32)) rfl ?_
  refine own_lload X29 at_43 (pc' := 45) rfl (v := q3) rfl ?_
  refine own_ldc2 X29 (hw _ (List.mem_of_getElem? (i := 1) rfl)) at_45 (pc' := 48) rfl ?_
  refine own_land X29 at_48 (pc' := 49) rfl (z := (q3 &&& (4294967295 : Int64))) rfl ?_
  refine own_lastore X29 V32 g7 (x := (own_v0_49 q3)) rfl 4 rfl (by decide) (by decide) at_49 (pc' := 50) rfl fun T33 h34 lc36 X35 W37 V38 => ?_
  replace V38 : own_W Z h34 b1 (8 : Int32) [(own_v0_14 q1), (own_v0_22 q1), (own_v0_31 q2), (own_v0_39 q2), (own_v0_49 q3), (0 : Int64), (0 : Int64), (0 : Int64)] := V38
  refine own_aload X35 at_50 (pc' := 52) rfl (v := (.ref b1)) rfl rfl ?_
  refine own_iconst X35 at_52 (pc' := 53) rfl (z := (5 : Int32)) rfl ?_
  refine own_lload X35 at_53 (pc' := 55) rfl (v := q3) rfl ?_
  refine own_bipush X35 at_55 (pc' := 57) rfl (z := (32 : Int32)) rfl ?_
  refine own_lushr X35 at_57 (pc' := 58) rfl (z := ((q3.toUInt64 >>> (32 : UInt64)).toInt64)) rfl ?_
  refine own_lastore X35 V38 g7 (x := (own_v0_58 q3)) rfl 5 rfl (by decide) (by decide) at_58 (pc' := 59) rfl fun T39 h40 lc42 X41 W43 V44 => ?_
  replace V44 : own_W Z h40 b1 (8 : Int32) [(own_v0_14 q1), (own_v0_22 q1), (own_v0_31 q2), (own_v0_39 q2), (own_v0_49 q3), (own_v0_58 q3), (0 : Int64), (0 : Int64)] := V44
  refine own_aload X41 at_59 (pc' := 61) rfl (v := (.ref b1)) rfl rfl ?_
  refine own_bipush X41 at_61 (pc' := 63) rfl (z := (6 : Int32)) rfl ?_
  refine own_lload X41 at_63 (pc' := 65) rfl (v := q4) rfl ?_
  refine own_ldc2 X41 (hw _ (List.mem_of_getElem? (i := 1) rfl)) at_65 (pc' := 68) rfl ?_
  refine own_land X41 at_68 (pc' := 69) rfl (z := (q4 &&& (4294967295 : Int64))) rfl ?_
  refine own_lastore X41 V44 g7 (x := (own_v0_69 q4)) rfl 6 rfl (by decide) (by decide) at_69 (pc' := 70) rfl fun T45 h46 lc48 X47 W49 V50 => ?_
  replace V50 : own_W Z h46 b1 (8 : Int32) [(own_v0_14 q1), (own_v0_22 q1), (own_v0_31 q2), (own_v0_39 q2), (own_v0_49 q3), (own_v0_58 q3), (own_v0_69 q4), (0 : Int64)] := V50
  refine own_aload X47 at_70 (pc' := 72) rfl (v := (.ref b1)) rfl rfl ?_
  refine own_bipush X47 at_72 (pc' := 74) rfl (z := (7 : Int32)) rfl ?_
  refine own_lload X47 at_74 (pc' := 76) rfl (v := q4) rfl ?_
  refine own_bipush X47 at_76 (pc' := 78) rfl (z := (32 : Int32)) rfl ?_
  refine own_lushr X47 at_78 (pc' := 79) rfl (z := ((q4.toUInt64 >>> (32 : UInt64)).toInt64)) rfl ?_
  refine own_lastore X47 V50 g7 (x := (own_v0_79 q4)) rfl 7 rfl (by decide) (by decide) at_79 (pc' := 80) rfl fun T51 h52 lc54 X53 W55 V56 => ?_
  replace V56 : own_W Z h52 b1 (8 : Int32) [(own_v0_14 q1), (own_v0_22 q1), (own_v0_31 q2), (own_v0_39 q2), (own_v0_49 q3), (own_v0_58 q3), (own_v0_69 q4), (own_v0_79 q4)] := V56
  refine own_lload X53 at_80 (pc' := 82) rfl (v := q5) rfl ?_
  refine own_ldc2 X53 (hw _ (List.mem_of_getElem? (i := 1) rfl)) at_82 (pc' := 85) rfl ?_
  refine own_land X53 at_85 (pc' := 86) rfl (z := (q5 &&& (4294967295 : Int64))) rfl ?_
  refine own_lstore X53 at_86 (pc' := 88) rfl (y := (own_v0_86 q5)) rfl (Ls' := #[.val (.long q1), .second, .val (.long q2), .second, .val (.long q3), .second, .val (.long q4), .second, .val (.long q5), .second, .val (.long q6), .second, .val (.ref b1), .val (.long (own_v0_86 q5)), .second, .unset, .unset, .unset, .unset, .unset, .unset, .unset, .unset, .unset, .unset, .unset, .unset, .unset, .unset]) rfl ?_
  refine own_lload X53 at_88 (pc' := 90) rfl (v := q5) rfl ?_
  refine own_bipush X53 at_90 (pc' := 92) rfl (z := (32 : Int32)) rfl ?_
  refine own_lushr X53 at_92 (pc' := 93) rfl (z := ((q5.toUInt64 >>> (32 : UInt64)).toInt64)) rfl ?_
  refine own_lstore X53 at_93 (pc' := 95) rfl (y := (own_v0_93 q5)) rfl (Ls' := #[.val (.long q1), .second, .val (.long q2), .second, .val (.long q3), .second, .val (.long q4), .second, .val (.long q5), .second, .val (.long q6), .second, .val (.ref b1), .val (.long (own_v0_86 q5)), .second, .val (.long (own_v0_93 q5)), .second, .unset, .unset, .unset, .unset, .unset, .unset, .unset, .unset, .unset, .unset, .unset, .unset]) rfl ?_
  refine own_lload X53 at_95 (pc' := 97) rfl (v := q6) rfl ?_
  refine own_bipush X53 at_97 (pc' := 99) rfl (z := (32 : Int32)) rfl ?_
  refine own_lushr X53 at_99 (pc' := 100) rfl (z := ((q6.toUInt64 >>> (32 : UInt64)).toInt64)) rfl ?_
  refine own_lstore X53 at_100 (pc' := 102) rfl (y := (own_v0_100 q6)) rfl (Ls' := #[.val (.long q1), .second, .val (.long q2), .second, .val (.long q3), .second, .val (.long q4), .second, .val (.long q5), .second, .val (.long q6), .second, .val (.ref b1), .val (.long (own_v0_86 q5)), .second, .val (.long (own_v0_93 q5)), .second, .val (.long (own_v0_100 q6)), .second, .unset, .unset, .unset, .unset, .unset, .unset, .unset, .unset, .unset, .unset]) rfl ?_
  refine own_bipush X53 at_102 (pc' := 104) rfl (z := (8 : Int32)) rfl ?_
  refine own_newW X53 (hw _ (List.mem_of_getElem? (i := 0) rfl)) (by decide) 8 (by decide) (by decide) (by decide) (by decide) at_104 (pc' := 106) rfl fun T58 h59 b57 X60 Ex61 hs62 g63 V64 => ?_
  have ne65 : b1 ≠ b57 := Nat.ne_of_lt (Nat.lt_of_lt_of_eq V56.lt hs62)
  have V66 := V56.ext Ex61
  replace V64 : own_W Z h59 b57 (8 : Int32) [(0 : Int64), (0 : Int64), (0 : Int64), (0 : Int64), (0 : Int64), (0 : Int64), (0 : Int64), (0 : Int64)] := V64
  refine own_astore X60 at_106 (pc' := 108) rfl rfl (Ls' := #[.val (.long q1), .second, .val (.long q2), .second, .val (.long q3), .second, .val (.long q4), .second, .val (.long q5), .second, .val (.long q6), .second, .val (.ref b1), .val (.long (own_v0_86 q5)), .second, .val (.long (own_v0_93 q5)), .second, .val (.long (own_v0_100 q6)), .second, .val (.ref b57), .unset, .unset, .unset, .unset, .unset, .unset, .unset, .unset, .unset]) rfl ?_
  refine own_aload X60 at_108 (pc' := 110) rfl (v := (.ref b57)) rfl rfl ?_
  refine own_iconst X60 at_110 (pc' := 111) rfl (z := (0 : Int32)) rfl ?_
  refine own_lload X60 at_111 (pc' := 113) rfl (v := q6) rfl ?_
  refine own_iconst X60 at_113 (pc' := 114) rfl (z := (0 : Int32)) rfl ?_
  refine own_aload X60 at_114 (pc' := 116) rfl (v := (.ref b1)) rfl rfl ?_
  refine own_iconst X60 at_116 (pc' := 117) rfl (z := (0 : Int32)) rfl ?_
  refine own_laload X60 V66 (by decide) (by decide) (y := (own_v0_14 q1)) rfl at_117 (pc' := 118) rfl ?_
  refine own_lload X60 at_118 (pc' := 120) rfl (v := (own_v0_86 q5)) rfl ?_
  refine own_lload X60 at_120 (pc' := 122) rfl (v := (own_v0_93 q5)) rfl ?_
  refine own_lload X60 at_122 (pc' := 124) rfl (v := (own_v0_100 q6)) rfl ?_
  refine own_callS X60 (argsL := [(.long q6), (.int (0 : Int32)), (.long (own_v0_14 q1)), (.long (own_v0_86 q5)), (.long (own_v0_93 q5)), (.long (own_v0_100 q6))]) (S := [(.int (0 : Int32)), (.ref b57)]) (own_rm1 l Z a0 hw q6 (0 : Int32) (own_v0_14 q1) (own_v0_86 q5) (own_v0_93 q5) (own_v0_100 q6) h59 n0 X60.2.2.2.2.2.2.2.2.1 ) (hw _ (List.mem_of_getElem? (i := 2) rfl)) (hw _ (List.mem_of_getElem? (i := 3) rfl)) (hw _ (List.mem_of_getElem? (i := 4) rfl)) (hw _ (List.mem_of_getElem? (i := 5) rfl)) (by decide) (by decide) 2 (by decide) rfl own_pd0 rfl rfl (Nat.le_of_eq rfl) (by decide) (by decide) at_124 (pc' := 127) rfl fun T67 h68 lc69 r70 X71 Q72 => ?_
  obtain ⟨rfl, e73⟩ := Q72
  replace e73 := e73.symm
  subst e73
  show own_E p e below _ (T67.setTop (mkF m 127 #[.val (.long q1), .second, .val (.long q2), .second, .val (.long q3), .second, .val (.long q4), .second, .val (.long q5), .second, .val (.long q6), .second, .val (.ref b1), .val (.long (own_v0_86 q5)), .second, .val (.long (own_v0_93 q5)), .second, .val (.long (own_v0_100 q6)), .second, .val (.ref b57), .unset, .unset, .unset, .unset, .unset, .unset, .unset, .unset, .unset] [(.long (own_v0_124 q1 q5 q6)), (.int (0 : Int32)), (.ref b57)]))
  refine own_lastore X71 V64 g63 (x := (own_v0_124 q1 q5 q6)) rfl 0 rfl (by decide) (by decide) at_127 (pc' := 128) rfl fun T74 h75 lc77 X76 W78 V79 => ?_
  replace V79 : own_W Z h75 b57 (8 : Int32) [(own_v0_124 q1 q5 q6), (0 : Int64), (0 : Int64), (0 : Int64), (0 : Int64), (0 : Int64), (0 : Int64), (0 : Int64)] := V79
  have V80 := V66.other W78 ne65
  refine own_aload X76 at_128 (pc' := 130) rfl (v := (.ref b57)) rfl rfl ?_
  refine own_iconst X76 at_130 (pc' := 131) rfl (z := (1 : Int32)) rfl ?_
  refine own_lload X76 at_131 (pc' := 133) rfl (v := q6) rfl ?_
  refine own_iconst X76 at_133 (pc' := 134) rfl (z := (1 : Int32)) rfl ?_
  refine own_aload X76 at_134 (pc' := 136) rfl (v := (.ref b1)) rfl rfl ?_
  refine own_iconst X76 at_136 (pc' := 137) rfl (z := (1 : Int32)) rfl ?_
  refine own_laload X76 V80 (by decide) (by decide) (y := (own_v0_22 q1)) rfl at_137 (pc' := 138) rfl ?_
  refine own_lload X76 at_138 (pc' := 140) rfl (v := (own_v0_86 q5)) rfl ?_
  refine own_lload X76 at_140 (pc' := 142) rfl (v := (own_v0_93 q5)) rfl ?_
  refine own_lload X76 at_142 (pc' := 144) rfl (v := (own_v0_100 q6)) rfl ?_
  refine own_callS X76 (argsL := [(.long q6), (.int (1 : Int32)), (.long (own_v0_22 q1)), (.long (own_v0_86 q5)), (.long (own_v0_93 q5)), (.long (own_v0_100 q6))]) (S := [(.int (1 : Int32)), (.ref b57)]) (own_rm1 l Z a0 hw q6 (1 : Int32) (own_v0_22 q1) (own_v0_86 q5) (own_v0_93 q5) (own_v0_100 q6) h75 n0 X76.2.2.2.2.2.2.2.2.1 ) (hw _ (List.mem_of_getElem? (i := 2) rfl)) (hw _ (List.mem_of_getElem? (i := 3) rfl)) (hw _ (List.mem_of_getElem? (i := 4) rfl)) (hw _ (List.mem_of_getElem? (i := 5) rfl)) (by decide) (by decide) 2 (by decide) rfl own_pd0 rfl rfl (Nat.le_of_eq rfl) (by decide) (by decide) at_144 (pc' := 147) rfl fun T81 h82 lc83 r84 X85 Q86 => ?_
  obtain ⟨rfl, e87⟩ := Q86
  replace e87 := e87.symm
  subst e87
  show own_E p e below _ (T81.setTop (mkF m 147 #[.val (.long q1), .second, .val (.long q2), .second, .val (.long q3), .second, .val (.long q4), .second, .val (.long q5), .second, .val (.long q6), .second, .val (.ref b1), .val (.long (own_v0_86 q5)), .second, .val (.long (own_v0_93 q5)), .second, .val (.long (own_v0_100 q6)), .second, .val (.ref b57), .unset, .unset, .unset, .unset, .unset, .unset, .unset, .unset, .unset] [(.long (own_v0_144 q1 q5 q6)), (.int (1 : Int32)), (.ref b57)]))
  refine own_lastore X85 V79 g63 (x := (own_v0_144 q1 q5 q6)) rfl 1 rfl (by decide) (by decide) at_147 (pc' := 148) rfl fun T88 h89 lc91 X90 W92 V93 => ?_
  replace V93 : own_W Z h89 b57 (8 : Int32) [(own_v0_124 q1 q5 q6), (own_v0_144 q1 q5 q6), (0 : Int64), (0 : Int64), (0 : Int64), (0 : Int64), (0 : Int64), (0 : Int64)] := V93
  have V94 := V80.other W92 ne65
  refine own_aload X90 at_148 (pc' := 150) rfl (v := (.ref b57)) rfl rfl ?_
  refine own_iconst X90 at_150 (pc' := 151) rfl (z := (2 : Int32)) rfl ?_
  refine own_lload X90 at_151 (pc' := 153) rfl (v := q6) rfl ?_
  refine own_iconst X90 at_153 (pc' := 154) rfl (z := (2 : Int32)) rfl ?_
  refine own_aload X90 at_154 (pc' := 156) rfl (v := (.ref b1)) rfl rfl ?_
  refine own_iconst X90 at_156 (pc' := 157) rfl (z := (2 : Int32)) rfl ?_
  refine own_laload X90 V94 (by decide) (by decide) (y := (own_v0_31 q2)) rfl at_157 (pc' := 158) rfl ?_
  refine own_lload X90 at_158 (pc' := 160) rfl (v := (own_v0_86 q5)) rfl ?_
  refine own_lload X90 at_160 (pc' := 162) rfl (v := (own_v0_93 q5)) rfl ?_
  refine own_lload X90 at_162 (pc' := 164) rfl (v := (own_v0_100 q6)) rfl ?_
  refine own_callS X90 (argsL := [(.long q6), (.int (2 : Int32)), (.long (own_v0_31 q2)), (.long (own_v0_86 q5)), (.long (own_v0_93 q5)), (.long (own_v0_100 q6))]) (S := [(.int (2 : Int32)), (.ref b57)]) (own_rm1 l Z a0 hw q6 (2 : Int32) (own_v0_31 q2) (own_v0_86 q5) (own_v0_93 q5) (own_v0_100 q6) h89 n0 X90.2.2.2.2.2.2.2.2.1 ) (hw _ (List.mem_of_getElem? (i := 2) rfl)) (hw _ (List.mem_of_getElem? (i := 3) rfl)) (hw _ (List.mem_of_getElem? (i := 4) rfl)) (hw _ (List.mem_of_getElem? (i := 5) rfl)) (by decide) (by decide) 2 (by decide) rfl own_pd0 rfl rfl (Nat.le_of_eq rfl) (by decide) (by decide) at_164 (pc' := 167) rfl fun T95 h96 lc97 r98 X99 Q100 => ?_
  obtain ⟨rfl, e101⟩ := Q100
  replace e101 := e101.symm
  subst e101
  show own_E p e below _ (T95.setTop (mkF m 167 #[.val (.long q1), .second, .val (.long q2), .second, .val (.long q3), .second, .val (.long q4), .second, .val (.long q5), .second, .val (.long q6), .second, .val (.ref b1), .val (.long (own_v0_86 q5)), .second, .val (.long (own_v0_93 q5)), .second, .val (.long (own_v0_100 q6)), .second, .val (.ref b57), .unset, .unset, .unset, .unset, .unset, .unset, .unset, .unset, .unset] [(.long (own_v0_164 q2 q5 q6)), (.int (2 : Int32)), (.ref b57)]))
  refine own_lastore X99 V93 g63 (x := (own_v0_164 q2 q5 q6)) rfl 2 rfl (by decide) (by decide) at_167 (pc' := 168) rfl fun T102 h103 lc105 X104 W106 V107 => ?_
  replace V107 : own_W Z h103 b57 (8 : Int32) [(own_v0_124 q1 q5 q6), (own_v0_144 q1 q5 q6), (own_v0_164 q2 q5 q6), (0 : Int64), (0 : Int64), (0 : Int64), (0 : Int64), (0 : Int64)] := V107
  have V108 := V94.other W106 ne65
  refine own_aload X104 at_168 (pc' := 170) rfl (v := (.ref b57)) rfl rfl ?_
  refine own_iconst X104 at_170 (pc' := 171) rfl (z := (3 : Int32)) rfl ?_
  refine own_lload X104 at_171 (pc' := 173) rfl (v := q6) rfl ?_
  refine own_iconst X104 at_173 (pc' := 174) rfl (z := (3 : Int32)) rfl ?_
  refine own_aload X104 at_174 (pc' := 176) rfl (v := (.ref b1)) rfl rfl ?_
  refine own_iconst X104 at_176 (pc' := 177) rfl (z := (3 : Int32)) rfl ?_
  refine own_laload X104 V108 (by decide) (by decide) (y := (own_v0_39 q2)) rfl at_177 (pc' := 178) rfl ?_
  refine own_lload X104 at_178 (pc' := 180) rfl (v := (own_v0_86 q5)) rfl ?_
  refine own_lload X104 at_180 (pc' := 182) rfl (v := (own_v0_93 q5)) rfl ?_
  refine own_lload X104 at_182 (pc' := 184) rfl (v := (own_v0_100 q6)) rfl ?_
  refine own_callS X104 (argsL := [(.long q6), (.int (3 : Int32)), (.long (own_v0_39 q2)), (.long (own_v0_86 q5)), (.long (own_v0_93 q5)), (.long (own_v0_100 q6))]) (S := [(.int (3 : Int32)), (.ref b57)]) (own_rm1 l Z a0 hw q6 (3 : Int32) (own_v0_39 q2) (own_v0_86 q5) (own_v0_93 q5) (own_v0_100 q6) h103 n0 X104.2.2.2.2.2.2.2.2.1 ) (hw _ (List.mem_of_getElem? (i := 2) rfl)) (hw _ (List.mem_of_getElem? (i := 3) rfl)) (hw _ (List.mem_of_getElem? (i := 4) rfl)) (hw _ (List.mem_of_getElem? (i := 5) rfl)) (by decide) (by decide) 2 (by decide) rfl own_pd0 rfl rfl (Nat.le_of_eq rfl) (by decide) (by decide) at_184 (pc' := 187) rfl fun T109 h110 lc111 r112 X113 Q114 => ?_
  obtain ⟨rfl, e115⟩ := Q114
  replace e115 := e115.symm
  subst e115
  show own_E p e below _ (T109.setTop (mkF m 187 #[.val (.long q1), .second, .val (.long q2), .second, .val (.long q3), .second, .val (.long q4), .second, .val (.long q5), .second, .val (.long q6), .second, .val (.ref b1), .val (.long (own_v0_86 q5)), .second, .val (.long (own_v0_93 q5)), .second, .val (.long (own_v0_100 q6)), .second, .val (.ref b57), .unset, .unset, .unset, .unset, .unset, .unset, .unset, .unset, .unset] [(.long (own_v0_184 q2 q5 q6)), (.int (3 : Int32)), (.ref b57)]))
  refine own_lastore X113 V107 g63 (x := (own_v0_184 q2 q5 q6)) rfl 3 rfl (by decide) (by decide) at_187 (pc' := 188) rfl fun T116 h117 lc119 X118 W120 V121 => ?_
  replace V121 : own_W Z h117 b57 (8 : Int32) [(own_v0_124 q1 q5 q6), (own_v0_144 q1 q5 q6), (own_v0_164 q2 q5 q6), (own_v0_184 q2 q5 q6), (0 : Int64), (0 : Int64), (0 : Int64), (0 : Int64)] := V121
  have V122 := V108.other W120 ne65
  refine own_aload X118 at_188 (pc' := 190) rfl (v := (.ref b57)) rfl rfl ?_
  refine own_iconst X118 at_190 (pc' := 191) rfl (z := (4 : Int32)) rfl ?_
  refine own_lload X118 at_191 (pc' := 193) rfl (v := q6) rfl ?_
  refine own_iconst X118 at_193 (pc' := 194) rfl (z := (4 : Int32)) rfl ?_
  refine own_aload X118 at_194 (pc' := 196) rfl (v := (.ref b1)) rfl rfl ?_
  refine own_iconst X118 at_196 (pc' := 197) rfl (z := (4 : Int32)) rfl ?_
  refine own_laload X118 V122 (by decide) (by decide) (y := (own_v0_49 q3)) rfl at_197 (pc' := 198) rfl ?_
  refine own_lload X118 at_198 (pc' := 200) rfl (v := (own_v0_86 q5)) rfl ?_
  refine own_lload X118 at_200 (pc' := 202) rfl (v := (own_v0_93 q5)) rfl ?_
  refine own_lload X118 at_202 (pc' := 204) rfl (v := (own_v0_100 q6)) rfl ?_
  refine own_callS X118 (argsL := [(.long q6), (.int (4 : Int32)), (.long (own_v0_49 q3)), (.long (own_v0_86 q5)), (.long (own_v0_93 q5)), (.long (own_v0_100 q6))]) (S := [(.int (4 : Int32)), (.ref b57)]) (own_rm1 l Z a0 hw q6 (4 : Int32) (own_v0_49 q3) (own_v0_86 q5) (own_v0_93 q5) (own_v0_100 q6) h117 n0 X118.2.2.2.2.2.2.2.2.1 ) (hw _ (List.mem_of_getElem? (i := 2) rfl)) (hw _ (List.mem_of_getElem? (i := 3) rfl)) (hw _ (List.mem_of_getElem? (i := 4) rfl)) (hw _ (List.mem_of_getElem? (i := 5) rfl)) (by decide) (by decide) 2 (by decide) rfl own_pd0 rfl rfl (Nat.le_of_eq rfl) (by decide) (by decide) at_204 (pc' := 207) rfl fun T123 h124 lc125 r126 X127 Q128 => ?_
  obtain ⟨rfl, e129⟩ := Q128
  replace e129 := e129.symm
  subst e129
  show own_E p e below _ (T123.setTop (mkF m 207 #[.val (.long q1), .second, .val (.long q2), .second, .val (.long q3), .second, .val (.long q4), .second, .val (.long q5), .second, .val (.long q6), .second, .val (.ref b1), .val (.long (own_v0_86 q5)), .second, .val (.long (own_v0_93 q5)), .second, .val (.long (own_v0_100 q6)), .second, .val (.ref b57), .unset, .unset, .unset, .unset, .unset, .unset, .unset, .unset, .unset] [(.long (own_v0_204 q3 q5 q6)), (.int (4 : Int32)), (.ref b57)]))
  refine own_lastore X127 V121 g63 (x := (own_v0_204 q3 q5 q6)) rfl 4 rfl (by decide) (by decide) at_207 (pc' := 208) rfl fun T130 h131 lc133 X132 W134 V135 => ?_
  replace V135 : own_W Z h131 b57 (8 : Int32) [(own_v0_124 q1 q5 q6), (own_v0_144 q1 q5 q6), (own_v0_164 q2 q5 q6), (own_v0_184 q2 q5 q6), (own_v0_204 q3 q5 q6), (0 : Int64), (0 : Int64), (0 : Int64)] := V135
  have V136 := V122.other W134 ne65
  refine own_aload X132 at_208 (pc' := 210) rfl (v := (.ref b57)) rfl rfl ?_
  refine own_iconst X132 at_210 (pc' := 211) rfl (z := (5 : Int32)) rfl ?_
  refine own_lload X132 at_211 (pc' := 213) rfl (v := q6) rfl ?_
  refine own_iconst X132 at_213 (pc' := 214) rfl (z := (5 : Int32)) rfl ?_
  refine own_aload X132 at_214 (pc' := 216) rfl (v := (.ref b1)) rfl rfl ?_
  refine own_iconst X132 at_216 (pc' := 217) rfl (z := (5 : Int32)) rfl ?_
  refine own_laload X132 V136 (by decide) (by decide) (y := (own_v0_58 q3)) rfl at_217 (pc' := 218) rfl ?_
  refine own_lload X132 at_218 (pc' := 220) rfl (v := (own_v0_86 q5)) rfl ?_
  refine own_lload X132 at_220 (pc' := 222) rfl (v := (own_v0_93 q5)) rfl ?_
  refine own_lload X132 at_222 (pc' := 224) rfl (v := (own_v0_100 q6)) rfl ?_
  refine own_callS X132 (argsL := [(.long q6), (.int (5 : Int32)), (.long (own_v0_58 q3)), (.long (own_v0_86 q5)), (.long (own_v0_93 q5)), (.long (own_v0_100 q6))]) (S := [(.int (5 : Int32)), (.ref b57)]) (own_rm1 l Z a0 hw q6 (5 : Int32) (own_v0_58 q3) (own_v0_86 q5) (own_v0_93 q5) (own_v0_100 q6) h131 n0 X132.2.2.2.2.2.2.2.2.1 ) (hw _ (List.mem_of_getElem? (i := 2) rfl)) (hw _ (List.mem_of_getElem? (i := 3) rfl)) (hw _ (List.mem_of_getElem? (i := 4) rfl)) (hw _ (List.mem_of_getElem? (i := 5) rfl)) (by decide) (by decide) 2 (by decide) rfl own_pd0 rfl rfl (Nat.le_of_eq rfl) (by decide) (by decide) at_224 (pc' := 227) rfl fun T137 h138 lc139 r140 X141 Q142 => ?_
  obtain ⟨rfl, e143⟩ := Q142
  replace e143 := e143.symm
  subst e143
  show own_E p e below _ (T137.setTop (mkF m 227 #[.val (.long q1), .second, .val (.long q2), .second, .val (.long q3), .second, .val (.long q4), .second, .val (.long q5), .second, .val (.long q6), .second, .val (.ref b1), .val (.long (own_v0_86 q5)), .second, .val (.long (own_v0_93 q5)), .second, .val (.long (own_v0_100 q6)), .second, .val (.ref b57), .unset, .unset, .unset, .unset, .unset, .unset, .unset, .unset, .unset] [(.long (own_v0_224 q3 q5 q6)), (.int (5 : Int32)), (.ref b57)]))
  refine own_lastore X141 V135 g63 (x := (own_v0_224 q3 q5 q6)) rfl 5 rfl (by decide) (by decide) at_227 (pc' := 228) rfl fun T144 h145 lc147 X146 W148 V149 => ?_
  replace V149 : own_W Z h145 b57 (8 : Int32) [(own_v0_124 q1 q5 q6), (own_v0_144 q1 q5 q6), (own_v0_164 q2 q5 q6), (own_v0_184 q2 q5 q6), (own_v0_204 q3 q5 q6), (own_v0_224 q3 q5 q6), (0 : Int64), (0 : Int64)] := V149
  have V150 := V136.other W148 ne65
  refine own_aload X146 at_228 (pc' := 230) rfl (v := (.ref b57)) rfl rfl ?_
  refine own_bipush X146 at_230 (pc' := 232) rfl (z := (6 : Int32)) rfl ?_
  refine own_lload X146 at_232 (pc' := 234) rfl (v := q6) rfl ?_
  refine own_bipush X146 at_234 (pc' := 236) rfl (z := (6 : Int32)) rfl ?_
  refine own_aload X146 at_236 (pc' := 238) rfl (v := (.ref b1)) rfl rfl ?_
  refine own_bipush X146 at_238 (pc' := 240) rfl (z := (6 : Int32)) rfl ?_
  refine own_laload X146 V150 (by decide) (by decide) (y := (own_v0_69 q4)) rfl at_240 (pc' := 241) rfl ?_
  refine own_lload X146 at_241 (pc' := 243) rfl (v := (own_v0_86 q5)) rfl ?_
  refine own_lload X146 at_243 (pc' := 245) rfl (v := (own_v0_93 q5)) rfl ?_
  refine own_lload X146 at_245 (pc' := 247) rfl (v := (own_v0_100 q6)) rfl ?_
  refine own_callS X146 (argsL := [(.long q6), (.int (6 : Int32)), (.long (own_v0_69 q4)), (.long (own_v0_86 q5)), (.long (own_v0_93 q5)), (.long (own_v0_100 q6))]) (S := [(.int (6 : Int32)), (.ref b57)]) (own_rm1 l Z a0 hw q6 (6 : Int32) (own_v0_69 q4) (own_v0_86 q5) (own_v0_93 q5) (own_v0_100 q6) h145 n0 X146.2.2.2.2.2.2.2.2.1 ) (hw _ (List.mem_of_getElem? (i := 2) rfl)) (hw _ (List.mem_of_getElem? (i := 3) rfl)) (hw _ (List.mem_of_getElem? (i := 4) rfl)) (hw _ (List.mem_of_getElem? (i := 5) rfl)) (by decide) (by decide) 2 (by decide) rfl own_pd0 rfl rfl (Nat.le_of_eq rfl) (by decide) (by decide) at_247 (pc' := 250) rfl fun T151 h152 lc153 r154 X155 Q156 => ?_
  obtain ⟨rfl, e157⟩ := Q156
  replace e157 := e157.symm
  subst e157
  show own_E p e below _ (T151.setTop (mkF m 250 #[.val (.long q1), .second, .val (.long q2), .second, .val (.long q3), .second, .val (.long q4), .second, .val (.long q5), .second, .val (.long q6), .second, .val (.ref b1), .val (.long (own_v0_86 q5)), .second, .val (.long (own_v0_93 q5)), .second, .val (.long (own_v0_100 q6)), .second, .val (.ref b57), .unset, .unset, .unset, .unset, .unset, .unset, .unset, .unset, .unset] [(.long (own_v0_247 q4 q5 q6)), (.int (6 : Int32)), (.ref b57)]))
  refine own_lastore X155 V149 g63 (x := (own_v0_247 q4 q5 q6)) rfl 6 rfl (by decide) (by decide) at_250 (pc' := 251) rfl fun T158 h159 lc161 X160 W162 V163 => ?_
  replace V163 : own_W Z h159 b57 (8 : Int32) [(own_v0_124 q1 q5 q6), (own_v0_144 q1 q5 q6), (own_v0_164 q2 q5 q6), (own_v0_184 q2 q5 q6), (own_v0_204 q3 q5 q6), (own_v0_224 q3 q5 q6), (own_v0_247 q4 q5 q6), (0 : Int64)] := V163
  have V164 := V150.other W162 ne65
  refine own_aload X160 at_251 (pc' := 253) rfl (v := (.ref b57)) rfl rfl ?_
  refine own_bipush X160 at_253 (pc' := 255) rfl (z := (7 : Int32)) rfl ?_
  refine own_lload X160 at_255 (pc' := 257) rfl (v := q6) rfl ?_
  refine own_bipush X160 at_257 (pc' := 259) rfl (z := (7 : Int32)) rfl ?_
  refine own_aload X160 at_259 (pc' := 261) rfl (v := (.ref b1)) rfl rfl ?_
  refine own_bipush X160 at_261 (pc' := 263) rfl (z := (7 : Int32)) rfl ?_
  refine own_laload X160 V164 (by decide) (by decide) (y := (own_v0_79 q4)) rfl at_263 (pc' := 264) rfl ?_
  refine own_lload X160 at_264 (pc' := 266) rfl (v := (own_v0_86 q5)) rfl ?_
  refine own_lload X160 at_266 (pc' := 268) rfl (v := (own_v0_93 q5)) rfl ?_
  refine own_lload X160 at_268 (pc' := 270) rfl (v := (own_v0_100 q6)) rfl ?_
  refine own_callS X160 (argsL := [(.long q6), (.int (7 : Int32)), (.long (own_v0_79 q4)), (.long (own_v0_86 q5)), (.long (own_v0_93 q5)), (.long (own_v0_100 q6))]) (S := [(.int (7 : Int32)), (.ref b57)]) (own_rm1 l Z a0 hw q6 (7 : Int32) (own_v0_79 q4) (own_v0_86 q5) (own_v0_93 q5) (own_v0_100 q6) h159 n0 X160.2.2.2.2.2.2.2.2.1 ) (hw _ (List.mem_of_getElem? (i := 2) rfl)) (hw _ (List.mem_of_getElem? (i := 3) rfl)) (hw _ (List.mem_of_getElem? (i := 4) rfl)) (hw _ (List.mem_of_getElem? (i := 5) rfl)) (by decide) (by decide) 2 (by decide) rfl own_pd0 rfl rfl (Nat.le_of_eq rfl) (by decide) (by decide) at_270 (pc' := 273) rfl fun T165 h166 lc167 r168 X169 Q170 => ?_
  obtain ⟨rfl, e171⟩ := Q170
  replace e171 := e171.symm
  subst e171
  show own_E p e below _ (T165.setTop (mkF m 273 #[.val (.long q1), .second, .val (.long q2), .second, .val (.long q3), .second, .val (.long q4), .second, .val (.long q5), .second, .val (.long q6), .second, .val (.ref b1), .val (.long (own_v0_86 q5)), .second, .val (.long (own_v0_93 q5)), .second, .val (.long (own_v0_100 q6)), .second, .val (.ref b57), .unset, .unset, .unset, .unset, .unset, .unset, .unset, .unset, .unset] [(.long (own_v0_270 q4 q5 q6)), (.int (7 : Int32)), (.ref b57)]))
  refine own_lastore X169 V163 g63 (x := (own_v0_270 q4 q5 q6)) rfl 7 rfl (by decide) (by decide) at_273 (pc' := 274) rfl fun T172 h173 lc175 X174 W176 V177 => ?_
  replace V177 : own_W Z h173 b57 (8 : Int32) [(own_v0_124 q1 q5 q6), (own_v0_144 q1 q5 q6), (own_v0_164 q2 q5 q6), (own_v0_184 q2 q5 q6), (own_v0_204 q3 q5 q6), (own_v0_224 q3 q5 q6), (own_v0_247 q4 q5 q6), (own_v0_270 q4 q5 q6)] := V177
  have V178 := V164.other W176 ne65
  refine own_bipush X174 at_274 (pc' := 276) rfl (z := (8 : Int32)) rfl ?_
  refine own_newW X174 (hw _ (List.mem_of_getElem? (i := 0) rfl)) (by decide) 8 (by decide) (by decide) (by decide) (by decide) at_276 (pc' := 278) rfl fun T180 h181 b179 X182 Ex183 hs184 g185 V186 => ?_
  have ne187 : b1 ≠ b179 := Nat.ne_of_lt (Nat.lt_of_lt_of_eq V178.lt hs184)
  have ne188 : b57 ≠ b179 := Nat.ne_of_lt (Nat.lt_of_lt_of_eq V177.lt hs184)
  have V189 := V178.ext Ex183
  have V190 := V177.ext Ex183
  replace V186 : own_W Z h181 b179 (8 : Int32) [(0 : Int64), (0 : Int64), (0 : Int64), (0 : Int64), (0 : Int64), (0 : Int64), (0 : Int64), (0 : Int64)] := V186
  refine own_astore X182 at_278 (pc' := 280) rfl rfl (Ls' := #[.val (.long q1), .second, .val (.long q2), .second, .val (.long q3), .second, .val (.long q4), .second, .val (.long q5), .second, .val (.long q6), .second, .val (.ref b1), .val (.long (own_v0_86 q5)), .second, .val (.long (own_v0_93 q5)), .second, .val (.long (own_v0_100 q6)), .second, .val (.ref b57), .val (.ref b179), .unset, .unset, .unset, .unset, .unset, .unset, .unset, .unset]) rfl ?_
  refine own_aload X182 at_280 (pc' := 282) rfl (v := (.ref b179)) rfl rfl ?_
  refine own_iconst X182 at_282 (pc' := 283) rfl (z := (0 : Int32)) rfl ?_
  refine own_aload X182 at_283 (pc' := 285) rfl (v := (.ref b1)) rfl rfl ?_
  refine own_iconst X182 at_285 (pc' := 286) rfl (z := (0 : Int32)) rfl ?_
  refine own_laload X182 V189 (by decide) (by decide) (y := (own_v0_14 q1)) rfl at_286 (pc' := 287) rfl ?_
  refine own_lastore X182 V186 g185 (x := (own_v0_14 q1)) rfl 0 rfl (by decide) (by decide) at_287 (pc' := 288) rfl fun T191 h192 lc194 X193 W195 V196 => ?_
  replace V196 : own_W Z h192 b179 (8 : Int32) [(own_v0_14 q1), (0 : Int64), (0 : Int64), (0 : Int64), (0 : Int64), (0 : Int64), (0 : Int64), (0 : Int64)] := V196
  have V197 := V189.other W195 ne187
  have V198 := V190.other W195 ne188
  refine own_aload X193 at_288 (pc' := 290) rfl (v := (.ref b179)) rfl rfl ?_
  refine own_iconst X193 at_290 (pc' := 291) rfl (z := (1 : Int32)) rfl ?_
  refine own_aload X193 at_291 (pc' := 293) rfl (v := (.ref b1)) rfl rfl ?_
  refine own_iconst X193 at_293 (pc' := 294) rfl (z := (1 : Int32)) rfl ?_
  refine own_laload X193 V197 (by decide) (by decide) (y := (own_v0_22 q1)) rfl at_294 (pc' := 295) rfl ?_
  refine own_lastore X193 V196 g185 (x := (own_v0_22 q1)) rfl 1 rfl (by decide) (by decide) at_295 (pc' := 296) rfl fun T199 h200 lc202 X201 W203 V204 => ?_
  replace V204 : own_W Z h200 b179 (8 : Int32) [(own_v0_14 q1), (own_v0_22 q1), (0 : Int64), (0 : Int64), (0 : Int64), (0 : Int64), (0 : Int64), (0 : Int64)] := V204
  have V205 := V197.other W203 ne187
  have V206 := V198.other W203 ne188
  refine own_aload X201 at_296 (pc' := 298) rfl (v := (.ref b179)) rfl rfl ?_
  refine own_iconst X201 at_298 (pc' := 299) rfl (z := (2 : Int32)) rfl ?_
  refine own_aload X201 at_299 (pc' := 301) rfl (v := (.ref b1)) rfl rfl ?_
  refine own_iconst X201 at_301 (pc' := 302) rfl (z := (2 : Int32)) rfl ?_
  refine own_laload X201 V205 (by decide) (by decide) (y := (own_v0_31 q2)) rfl at_302 (pc' := 303) rfl ?_
  refine own_lastore X201 V204 g185 (x := (own_v0_31 q2)) rfl 2 rfl (by decide) (by decide) at_303 (pc' := 304) rfl fun T207 h208 lc210 X209 W211 V212 => ?_
  replace V212 : own_W Z h208 b179 (8 : Int32) [(own_v0_14 q1), (own_v0_22 q1), (own_v0_31 q2), (0 : Int64), (0 : Int64), (0 : Int64), (0 : Int64), (0 : Int64)] := V212
  have V213 := V205.other W211 ne187
  have V214 := V206.other W211 ne188
  refine own_aload X209 at_304 (pc' := 306) rfl (v := (.ref b179)) rfl rfl ?_
  refine own_iconst X209 at_306 (pc' := 307) rfl (z := (3 : Int32)) rfl ?_
  refine own_aload X209 at_307 (pc' := 309) rfl (v := (.ref b1)) rfl rfl ?_
  refine own_iconst X209 at_309 (pc' := 310) rfl (z := (3 : Int32)) rfl ?_
  refine own_laload X209 V213 (by decide) (by decide) (y := (own_v0_39 q2)) rfl at_310 (pc' := 311) rfl ?_
  refine own_lastore X209 V212 g185 (x := (own_v0_39 q2)) rfl 3 rfl (by decide) (by decide) at_311 (pc' := 312) rfl fun T215 h216 lc218 X217 W219 V220 => ?_
  replace V220 : own_W Z h216 b179 (8 : Int32) [(own_v0_14 q1), (own_v0_22 q1), (own_v0_31 q2), (own_v0_39 q2), (0 : Int64), (0 : Int64), (0 : Int64), (0 : Int64)] := V220
  have V221 := V213.other W219 ne187
  have V222 := V214.other W219 ne188
  refine own_aload X217 at_312 (pc' := 314) rfl (v := (.ref b179)) rfl rfl ?_
  refine own_iconst X217 at_314 (pc' := 315) rfl (z := (4 : Int32)) rfl ?_
  refine own_aload X217 at_315 (pc' := 317) rfl (v := (.ref b1)) rfl rfl ?_
  refine own_iconst X217 at_317 (pc' := 318) rfl (z := (4 : Int32)) rfl ?_
  refine own_laload X217 V221 (by decide) (by decide) (y := (own_v0_49 q3)) rfl at_318 (pc' := 319) rfl ?_
  refine own_lastore X217 V220 g185 (x := (own_v0_49 q3)) rfl 4 rfl (by decide) (by decide) at_319 (pc' := 320) rfl fun T223 h224 lc226 X225 W227 V228 => ?_
  replace V228 : own_W Z h224 b179 (8 : Int32) [(own_v0_14 q1), (own_v0_22 q1), (own_v0_31 q2), (own_v0_39 q2), (own_v0_49 q3), (0 : Int64), (0 : Int64), (0 : Int64)] := V228
  have V229 := V221.other W227 ne187
  have V230 := V222.other W227 ne188
  refine own_aload X225 at_320 (pc' := 322) rfl (v := (.ref b179)) rfl rfl ?_
  refine own_iconst X225 at_322 (pc' := 323) rfl (z := (5 : Int32)) rfl ?_
  refine own_aload X225 at_323 (pc' := 325) rfl (v := (.ref b1)) rfl rfl ?_
  refine own_iconst X225 at_325 (pc' := 326) rfl (z := (5 : Int32)) rfl ?_
  refine own_laload X225 V229 (by decide) (by decide) (y := (own_v0_58 q3)) rfl at_326 (pc' := 327) rfl ?_
  refine own_lastore X225 V228 g185 (x := (own_v0_58 q3)) rfl 5 rfl (by decide) (by decide) at_327 (pc' := 328) rfl fun T231 h232 lc234 X233 W235 V236 => ?_
  replace V236 : own_W Z h232 b179 (8 : Int32) [(own_v0_14 q1), (own_v0_22 q1), (own_v0_31 q2), (own_v0_39 q2), (own_v0_49 q3), (own_v0_58 q3), (0 : Int64), (0 : Int64)] := V236
  have V237 := V229.other W235 ne187
  have V238 := V230.other W235 ne188
  refine own_aload X233 at_328 (pc' := 330) rfl (v := (.ref b179)) rfl rfl ?_
  refine own_bipush X233 at_330 (pc' := 332) rfl (z := (6 : Int32)) rfl ?_
  refine own_aload X233 at_332 (pc' := 334) rfl (v := (.ref b1)) rfl rfl ?_
  refine own_bipush X233 at_334 (pc' := 336) rfl (z := (6 : Int32)) rfl ?_
  refine own_laload X233 V237 (by decide) (by decide) (y := (own_v0_69 q4)) rfl at_336 (pc' := 337) rfl ?_
  refine own_lastore X233 V236 g185 (x := (own_v0_69 q4)) rfl 6 rfl (by decide) (by decide) at_337 (pc' := 338) rfl fun T239 h240 lc242 X241 W243 V244 => ?_
  replace V244 : own_W Z h240 b179 (8 : Int32) [(own_v0_14 q1), (own_v0_22 q1), (own_v0_31 q2), (own_v0_39 q2), (own_v0_49 q3), (own_v0_58 q3), (own_v0_69 q4), (0 : Int64)] := V244
  have V245 := V237.other W243 ne187
  have V246 := V238.other W243 ne188
  refine own_aload X241 at_338 (pc' := 340) rfl (v := (.ref b179)) rfl rfl ?_
  refine own_bipush X241 at_340 (pc' := 342) rfl (z := (7 : Int32)) rfl ?_
  refine own_aload X241 at_342 (pc' := 344) rfl (v := (.ref b1)) rfl rfl ?_
  refine own_bipush X241 at_344 (pc' := 346) rfl (z := (7 : Int32)) rfl ?_
  refine own_laload X241 V245 (by decide) (by decide) (y := (own_v0_79 q4)) rfl at_346 (pc' := 347) rfl ?_
  refine own_lastore X241 V244 g185 (x := (own_v0_79 q4)) rfl 7 rfl (by decide) (by decide) at_347 (pc' := 348) rfl fun T247 h248 lc250 X249 W251 V252 => ?_
  replace V252 : own_W Z h248 b179 (8 : Int32) [(own_v0_14 q1), (own_v0_22 q1), (own_v0_31 q2), (own_v0_39 q2), (own_v0_49 q3), (own_v0_58 q3), (own_v0_69 q4), (own_v0_79 q4)] := V252
  have V253 := V245.other W251 ne187
  have V254 := V246.other W251 ne188
  refine own_bipush X249 at_348 (pc' := 350) rfl (z := (8 : Int32)) rfl ?_
  refine own_newW X249 (hw _ (List.mem_of_getElem? (i := 0) rfl)) (by decide) 8 (by decide) (by decide) (by decide) (by decide) at_350 (pc' := 352) rfl fun T256 h257 b255 X258 Ex259 hs260 g261 V262 => ?_
  have ne263 : b1 ≠ b255 := Nat.ne_of_lt (Nat.lt_of_lt_of_eq V253.lt hs260)
  have ne264 : b57 ≠ b255 := Nat.ne_of_lt (Nat.lt_of_lt_of_eq V254.lt hs260)
  have ne265 : b179 ≠ b255 := Nat.ne_of_lt (Nat.lt_of_lt_of_eq V252.lt hs260)
  have V266 := V253.ext Ex259
  have V267 := V254.ext Ex259
  have V268 := V252.ext Ex259
  replace V262 : own_W Z h257 b255 (8 : Int32) [(0 : Int64), (0 : Int64), (0 : Int64), (0 : Int64), (0 : Int64), (0 : Int64), (0 : Int64), (0 : Int64)] := V262
  refine own_astore X258 at_352 (pc' := 354) rfl rfl (Ls' := #[.val (.long q1), .second, .val (.long q2), .second, .val (.long q3), .second, .val (.long q4), .second, .val (.long q5), .second, .val (.long q6), .second, .val (.ref b1), .val (.long (own_v0_86 q5)), .second, .val (.long (own_v0_93 q5)), .second, .val (.long (own_v0_100 q6)), .second, .val (.ref b57), .val (.ref b179), .val (.ref b255), .unset, .unset, .unset, .unset, .unset, .unset, .unset]) rfl ?_
  refine own_aload X258 at_354 (pc' := 356) rfl (v := (.ref b255)) rfl rfl ?_
  refine own_iconst X258 at_356 (pc' := 357) rfl (z := (0 : Int32)) rfl ?_
  refine own_aload X258 at_357 (pc' := 359) rfl (v := (.ref b57)) rfl rfl ?_
  refine own_iconst X258 at_359 (pc' := 360) rfl (z := (0 : Int32)) rfl ?_
  refine own_laload X258 V267 (by decide) (by decide) (y := (own_v0_124 q1 q5 q6)) rfl at_360 (pc' := 361) rfl ?_
  refine own_lastore X258 V262 g261 (x := (own_v0_124 q1 q5 q6)) rfl 0 rfl (by decide) (by decide) at_361 (pc' := 362) rfl fun T269 h270 lc272 X271 W273 V274 => ?_
  replace V274 : own_W Z h270 b255 (8 : Int32) [(own_v0_124 q1 q5 q6), (0 : Int64), (0 : Int64), (0 : Int64), (0 : Int64), (0 : Int64), (0 : Int64), (0 : Int64)] := V274
  have V275 := V266.other W273 ne263
  have V276 := V267.other W273 ne264
  have V277 := V268.other W273 ne265
  refine own_aload X271 at_362 (pc' := 364) rfl (v := (.ref b255)) rfl rfl ?_
  refine own_iconst X271 at_364 (pc' := 365) rfl (z := (1 : Int32)) rfl ?_
  refine own_aload X271 at_365 (pc' := 367) rfl (v := (.ref b57)) rfl rfl ?_
  refine own_iconst X271 at_367 (pc' := 368) rfl (z := (1 : Int32)) rfl ?_
  refine own_laload X271 V276 (by decide) (by decide) (y := (own_v0_144 q1 q5 q6)) rfl at_368 (pc' := 369) rfl ?_
  refine own_lastore X271 V274 g261 (x := (own_v0_144 q1 q5 q6)) rfl 1 rfl (by decide) (by decide) at_369 (pc' := 370) rfl fun T278 h279 lc281 X280 W282 V283 => ?_
  replace V283 : own_W Z h279 b255 (8 : Int32) [(own_v0_124 q1 q5 q6), (own_v0_144 q1 q5 q6), (0 : Int64), (0 : Int64), (0 : Int64), (0 : Int64), (0 : Int64), (0 : Int64)] := V283
  have V284 := V275.other W282 ne263
  have V285 := V276.other W282 ne264
  have V286 := V277.other W282 ne265
  refine own_aload X280 at_370 (pc' := 372) rfl (v := (.ref b255)) rfl rfl ?_
  refine own_iconst X280 at_372 (pc' := 373) rfl (z := (2 : Int32)) rfl ?_
  refine own_aload X280 at_373 (pc' := 375) rfl (v := (.ref b57)) rfl rfl ?_
  refine own_iconst X280 at_375 (pc' := 376) rfl (z := (2 : Int32)) rfl ?_
  refine own_laload X280 V285 (by decide) (by decide) (y := (own_v0_164 q2 q5 q6)) rfl at_376 (pc' := 377) rfl ?_
  refine own_lastore X280 V283 g261 (x := (own_v0_164 q2 q5 q6)) rfl 2 rfl (by decide) (by decide) at_377 (pc' := 378) rfl fun T287 h288 lc290 X289 W291 V292 => ?_
  replace V292 : own_W Z h288 b255 (8 : Int32) [(own_v0_124 q1 q5 q6), (own_v0_144 q1 q5 q6), (own_v0_164 q2 q5 q6), (0 : Int64), (0 : Int64), (0 : Int64), (0 : Int64), (0 : Int64)] := V292
  have V293 := V284.other W291 ne263
  have V294 := V285.other W291 ne264
  have V295 := V286.other W291 ne265
  refine own_aload X289 at_378 (pc' := 380) rfl (v := (.ref b255)) rfl rfl ?_
  refine own_iconst X289 at_380 (pc' := 381) rfl (z := (3 : Int32)) rfl ?_
  refine own_aload X289 at_381 (pc' := 383) rfl (v := (.ref b57)) rfl rfl ?_
  refine own_iconst X289 at_383 (pc' := 384) rfl (z := (3 : Int32)) rfl ?_
  refine own_laload X289 V294 (by decide) (by decide) (y := (own_v0_184 q2 q5 q6)) rfl at_384 (pc' := 385) rfl ?_
  refine own_lastore X289 V292 g261 (x := (own_v0_184 q2 q5 q6)) rfl 3 rfl (by decide) (by decide) at_385 (pc' := 386) rfl fun T296 h297 lc299 X298 W300 V301 => ?_
  replace V301 : own_W Z h297 b255 (8 : Int32) [(own_v0_124 q1 q5 q6), (own_v0_144 q1 q5 q6), (own_v0_164 q2 q5 q6), (own_v0_184 q2 q5 q6), (0 : Int64), (0 : Int64), (0 : Int64), (0 : Int64)] := V301
  have V302 := V293.other W300 ne263
  have V303 := V294.other W300 ne264
  have V304 := V295.other W300 ne265
  refine own_aload X298 at_386 (pc' := 388) rfl (v := (.ref b255)) rfl rfl ?_
  refine own_iconst X298 at_388 (pc' := 389) rfl (z := (4 : Int32)) rfl ?_
  refine own_aload X298 at_389 (pc' := 391) rfl (v := (.ref b57)) rfl rfl ?_
  refine own_iconst X298 at_391 (pc' := 392) rfl (z := (4 : Int32)) rfl ?_
  refine own_laload X298 V303 (by decide) (by decide) (y := (own_v0_204 q3 q5 q6)) rfl at_392 (pc' := 393) rfl ?_
  refine own_lastore X298 V301 g261 (x := (own_v0_204 q3 q5 q6)) rfl 4 rfl (by decide) (by decide) at_393 (pc' := 394) rfl fun T305 h306 lc308 X307 W309 V310 => ?_
  replace V310 : own_W Z h306 b255 (8 : Int32) [(own_v0_124 q1 q5 q6), (own_v0_144 q1 q5 q6), (own_v0_164 q2 q5 q6), (own_v0_184 q2 q5 q6), (own_v0_204 q3 q5 q6), (0 : Int64), (0 : Int64), (0 : Int64)] := V310
  have V311 := V302.other W309 ne263
  have V312 := V303.other W309 ne264
  have V313 := V304.other W309 ne265
  refine own_aload X307 at_394 (pc' := 396) rfl (v := (.ref b255)) rfl rfl ?_
  refine own_iconst X307 at_396 (pc' := 397) rfl (z := (5 : Int32)) rfl ?_
  refine own_aload X307 at_397 (pc' := 399) rfl (v := (.ref b57)) rfl rfl ?_
  refine own_iconst X307 at_399 (pc' := 400) rfl (z := (5 : Int32)) rfl ?_
  refine own_laload X307 V312 (by decide) (by decide) (y := (own_v0_224 q3 q5 q6)) rfl at_400 (pc' := 401) rfl ?_
  refine own_lastore X307 V310 g261 (x := (own_v0_224 q3 q5 q6)) rfl 5 rfl (by decide) (by decide) at_401 (pc' := 402) rfl fun T314 h315 lc317 X316 W318 V319 => ?_
  replace V319 : own_W Z h315 b255 (8 : Int32) [(own_v0_124 q1 q5 q6), (own_v0_144 q1 q5 q6), (own_v0_164 q2 q5 q6), (own_v0_184 q2 q5 q6), (own_v0_204 q3 q5 q6), (own_v0_224 q3 q5 q6), (0 : Int64), (0 : Int64)] := V319
  have V320 := V311.other W318 ne263
  have V321 := V312.other W318 ne264
  have V322 := V313.other W318 ne265
  refine own_aload X316 at_402 (pc' := 404) rfl (v := (.ref b255)) rfl rfl ?_
  refine own_bipush X316 at_404 (pc' := 406) rfl (z := (6 : Int32)) rfl ?_
  refine own_aload X316 at_406 (pc' := 408) rfl (v := (.ref b57)) rfl rfl ?_
  refine own_bipush X316 at_408 (pc' := 410) rfl (z := (6 : Int32)) rfl ?_
  refine own_laload X316 V321 (by decide) (by decide) (y := (own_v0_247 q4 q5 q6)) rfl at_410 (pc' := 411) rfl ?_
  refine own_lastore X316 V319 g261 (x := (own_v0_247 q4 q5 q6)) rfl 6 rfl (by decide) (by decide) at_411 (pc' := 412) rfl fun T323 h324 lc326 X325 W327 V328 => ?_
  replace V328 : own_W Z h324 b255 (8 : Int32) [(own_v0_124 q1 q5 q6), (own_v0_144 q1 q5 q6), (own_v0_164 q2 q5 q6), (own_v0_184 q2 q5 q6), (own_v0_204 q3 q5 q6), (own_v0_224 q3 q5 q6), (own_v0_247 q4 q5 q6), (0 : Int64)] := V328
  have V329 := V320.other W327 ne263
  have V330 := V321.other W327 ne264
  have V331 := V322.other W327 ne265
  refine own_aload X325 at_412 (pc' := 414) rfl (v := (.ref b255)) rfl rfl ?_
  refine own_bipush X325 at_414 (pc' := 416) rfl (z := (7 : Int32)) rfl ?_
  refine own_aload X325 at_416 (pc' := 418) rfl (v := (.ref b57)) rfl rfl ?_
  refine own_bipush X325 at_418 (pc' := 420) rfl (z := (7 : Int32)) rfl ?_
  refine own_laload X325 V330 (by decide) (by decide) (y := (own_v0_270 q4 q5 q6)) rfl at_420 (pc' := 421) rfl ?_
  refine own_lastore X325 V328 g261 (x := (own_v0_270 q4 q5 q6)) rfl 7 rfl (by decide) (by decide) at_421 (pc' := 422) rfl fun T332 h333 lc335 X334 W336 V337 => ?_
  replace V337 : own_W Z h333 b255 (8 : Int32) [(own_v0_124 q1 q5 q6), (own_v0_144 q1 q5 q6), (own_v0_164 q2 q5 q6), (own_v0_184 q2 q5 q6), (own_v0_204 q3 q5 q6), (own_v0_224 q3 q5 q6), (own_v0_247 q4 q5 q6), (own_v0_270 q4 q5 q6)] := V337
  have V338 := V329.other W336 ne263
  have V339 := V330.other W336 ne264
  have V340 := V331.other W336 ne265
  refine own_bipush X334 at_422 (pc' := 424) rfl (z := (8 : Int32)) rfl ?_
  refine own_newW X334 (hw _ (List.mem_of_getElem? (i := 0) rfl)) (by decide) 8 (by decide) (by decide) (by decide) (by decide) at_424 (pc' := 426) rfl fun T342 h343 b341 X344 Ex345 hs346 g347 V348 => ?_
  have ne349 : b1 ≠ b341 := Nat.ne_of_lt (Nat.lt_of_lt_of_eq V338.lt hs346)
  have ne350 : b57 ≠ b341 := Nat.ne_of_lt (Nat.lt_of_lt_of_eq V339.lt hs346)
  have ne351 : b179 ≠ b341 := Nat.ne_of_lt (Nat.lt_of_lt_of_eq V340.lt hs346)
  have ne352 : b255 ≠ b341 := Nat.ne_of_lt (Nat.lt_of_lt_of_eq V337.lt hs346)
  have V353 := V338.ext Ex345
  have V354 := V339.ext Ex345
  have V355 := V340.ext Ex345
  have V356 := V337.ext Ex345
  replace V348 : own_W Z h343 b341 (8 : Int32) [(0 : Int64), (0 : Int64), (0 : Int64), (0 : Int64), (0 : Int64), (0 : Int64), (0 : Int64), (0 : Int64)] := V348
  refine own_astore X344 at_426 (pc' := 428) rfl rfl (Ls' := #[.val (.long q1), .second, .val (.long q2), .second, .val (.long q3), .second, .val (.long q4), .second, .val (.long q5), .second, .val (.long q6), .second, .val (.ref b1), .val (.long (own_v0_86 q5)), .second, .val (.long (own_v0_93 q5)), .second, .val (.long (own_v0_100 q6)), .second, .val (.ref b57), .val (.ref b179), .val (.ref b255), .val (.ref b341), .unset, .unset, .unset, .unset, .unset, .unset]) rfl ?_
  refine own_bipush X344 at_428 (pc' := 430) rfl (z := (8 : Int32)) rfl ?_
  refine own_newW X344 (hw _ (List.mem_of_getElem? (i := 0) rfl)) (by decide) 8 (by decide) (by decide) (by decide) (by decide) at_430 (pc' := 432) rfl fun T358 h359 b357 X360 Ex361 hs362 g363 V364 => ?_
  have ne365 : b1 ≠ b357 := Nat.ne_of_lt (Nat.lt_of_lt_of_eq V353.lt hs362)
  have ne366 : b57 ≠ b357 := Nat.ne_of_lt (Nat.lt_of_lt_of_eq V354.lt hs362)
  have ne367 : b179 ≠ b357 := Nat.ne_of_lt (Nat.lt_of_lt_of_eq V355.lt hs362)
  have ne368 : b255 ≠ b357 := Nat.ne_of_lt (Nat.lt_of_lt_of_eq V356.lt hs362)
  have ne369 : b341 ≠ b357 := Nat.ne_of_lt (Nat.lt_of_lt_of_eq V348.lt hs362)
  have V370 := V353.ext Ex361
  have V371 := V354.ext Ex361
  have V372 := V355.ext Ex361
  have V373 := V356.ext Ex361
  have V374 := V348.ext Ex361
  replace V364 : own_W Z h359 b357 (8 : Int32) [(0 : Int64), (0 : Int64), (0 : Int64), (0 : Int64), (0 : Int64), (0 : Int64), (0 : Int64), (0 : Int64)] := V364
  refine own_astore X360 at_432 (pc' := 434) rfl rfl (Ls' := #[.val (.long q1), .second, .val (.long q2), .second, .val (.long q3), .second, .val (.long q4), .second, .val (.long q5), .second, .val (.long q6), .second, .val (.ref b1), .val (.long (own_v0_86 q5)), .second, .val (.long (own_v0_93 q5)), .second, .val (.long (own_v0_100 q6)), .second, .val (.ref b57), .val (.ref b179), .val (.ref b255), .val (.ref b341), .val (.ref b357), .unset, .unset, .unset, .unset, .unset]) rfl ?_
  refine own_aload X360 at_434 (pc' := 436) rfl (v := (.ref b341)) rfl rfl ?_
  refine own_aload X360 at_436 (pc' := 438) rfl (v := (.ref b1)) rfl rfl ?_
  refine own_aload X360 at_438 (pc' := 440) rfl (v := (.ref b57)) rfl rfl ?_
  refine own_callS X360 (argsL := [(.ref b341), (.ref b1), (.ref b57)]) (S := []) (own_rm2 l Z a0 hw b341 (0 : Int64) (0 : Int64) (0 : Int64) (0 : Int64) (0 : Int64) (0 : Int64) (0 : Int64) (0 : Int64) b1 (own_v0_14 q1) (own_v0_22 q1) (own_v0_31 q2) (own_v0_39 q2) (own_v0_49 q3) (own_v0_58 q3) (own_v0_69 q4) (own_v0_79 q4) b57 (own_v0_124 q1 q5 q6) (own_v0_144 q1 q5 q6) (own_v0_164 q2 q5 q6) (own_v0_184 q2 q5 q6) (own_v0_204 q3 q5 q6) (own_v0_224 q3 q5 q6) (own_v0_247 q4 q5 q6) (own_v0_270 q4 q5 q6) h359 n0 X360.2.2.2.2.2.2.2.2.1 V374 V370 V371 ne349 ne350 g347) (hw _ (List.mem_of_getElem? (i := 7) rfl)) (hw _ (List.mem_of_getElem? (i := 8) rfl)) (hw _ (List.mem_of_getElem? (i := 9) rfl)) (hw _ (List.mem_of_getElem? (i := 10) rfl)) (by decide) (by decide) 0 (by decide) rfl own_pd1 rfl rfl (Nat.le_of_eq rfl) (by decide) (by decide) at_440 (pc' := 443) rfl fun T375 h376 lc377 r378 X379 Q380 => ?_
  obtain ⟨rfl, K381, V382⟩ := Q380
  have V383 := V370.keep K381 (ninS ne349 nin0)
  have V384 := V371.keep K381 (ninS ne350 nin0)
  have V385 := V372.keep K381 (ninS ne351 nin0)
  have V386 := V373.keep K381 (ninS ne352 nin0)
  have V387 := V364.keep K381 (ninS (Ne.symm ne369) nin0)
  show own_E p e below _ (T375.setTop (mkF m 443 #[.val (.long q1), .second, .val (.long q2), .second, .val (.long q3), .second, .val (.long q4), .second, .val (.long q5), .second, .val (.long q6), .second, .val (.ref b1), .val (.long (own_v0_86 q5)), .second, .val (.long (own_v0_93 q5)), .second, .val (.long (own_v0_100 q6)), .second, .val (.ref b57), .val (.ref b179), .val (.ref b255), .val (.ref b341), .val (.ref b357), .unset, .unset, .unset, .unset, .unset] [(.long (own_v0_440 q1 q2 q3 q4 q5 q6))]))
  refine own_lstore X379 at_443 (pc' := 445) rfl (y := (own_v0_440 q1 q2 q3 q4 q5 q6)) rfl (Ls' := #[.val (.long q1), .second, .val (.long q2), .second, .val (.long q3), .second, .val (.long q4), .second, .val (.long q5), .second, .val (.long q6), .second, .val (.ref b1), .val (.long (own_v0_86 q5)), .second, .val (.long (own_v0_93 q5)), .second, .val (.long (own_v0_100 q6)), .second, .val (.ref b57), .val (.ref b179), .val (.ref b255), .val (.ref b341), .val (.ref b357), .val (.long (own_v0_440 q1 q2 q3 q4 q5 q6)), .second, .unset, .unset, .unset]) rfl ?_
  refine own_lload X379 at_445 (pc' := 447) rfl (v := (own_v0_440 q1 q2 q3 q4 q5 q6)) rfl ?_
  refine own_lconst X379 at_447 (pc' := 448) rfl (z := (0 : Int64)) rfl ?_
  have K392 : ∀ T393 lc395, own_A l Z "marketmint/Words256SubtractPinLaw" code maxLocals n0 p e room_1 s m #[(.long q1), (.long q2), (.long q3), (.long q4), (.long q5), (.long q6)] below meth c T393 h376 lc395 6 48 → own_E p e below (own_G room_1 s n0 (fun v h => v = some (.int (own_F0 q1 q2 q3 q4 q5 q6)))) (T393.setTop (mkF m 463 #[.val (.long q1), .second, .val (.long q2), .second, .val (.long q3), .second, .val (.long q4), .second, .val (.long q5), .second, .val (.long q6), .second, .val (.ref b1), .val (.long (own_v0_86 q5)), .second, .val (.long (own_v0_93 q5)), .second, .val (.long (own_v0_100 q6)), .second, .val (.ref b57), .val (.ref b179), .val (.ref b255), .val (.ref b341), .val (.ref b357), .val (.long (own_v0_440 q1 q2 q3 q4 q5 q6)), .second, .unset, .unset, .unset] [])) := by
    intro T393 lc395 X394
    refine own_aload X394 at_463 (pc' := 465) rfl (v := (.ref b341)) rfl rfl ?_
    refine own_iconst X394 at_465 (pc' := 466) rfl (z := (0 : Int32)) rfl ?_
    refine own_laload X394 V382 (by decide) (by decide) (y := (own_v2_15 (own_v0_14 q1) (own_v0_124 q1 q5 q6))) rfl at_466 (pc' := 467) rfl ?_
    refine own_callS X394 (argsL := [(.long (own_v2_15 (own_v0_14 q1) (own_v0_124 q1 q5 q6)))]) (S := []) (own_rm3 l Z a0 hw (own_v2_15 (own_v0_14 q1) (own_v0_124 q1 q5 q6)) h376 n0 X394.2.2.2.2.2.2.2.2.1 ) (hw _ (List.mem_of_getElem? (i := 13) rfl)) (hw _ (List.mem_of_getElem? (i := 14) rfl)) (hw _ (List.mem_of_getElem? (i := 4) rfl)) (hw _ (List.mem_of_getElem? (i := 15) rfl)) (by decide) (by decide) 0 (by decide) rfl own_pd2 rfl rfl (Nat.le_of_eq rfl) (by decide) (by decide) at_467 (pc' := 470) rfl fun T396 h397 lc398 r399 X400 Q401 => ?_
    obtain ⟨rfl, e402⟩ := Q401
    replace e402 := e402.symm
    subst e402
    show own_E p e below _ (T396.setTop (mkF m 470 #[.val (.long q1), .second, .val (.long q2), .second, .val (.long q3), .second, .val (.long q4), .second, .val (.long q5), .second, .val (.long q6), .second, .val (.ref b1), .val (.long (own_v0_86 q5)), .second, .val (.long (own_v0_93 q5)), .second, .val (.long (own_v0_100 q6)), .second, .val (.ref b57), .val (.ref b179), .val (.ref b255), .val (.ref b341), .val (.ref b357), .val (.long (own_v0_440 q1 q2 q3 q4 q5 q6)), .second, .unset, .unset, .unset] [(.int (own_F3 (own_v2_15 (own_v0_14 q1) (own_v0_124 q1 q5 q6))))]))
    have hk403 : ¬ ((own_F3 (own_v2_15 (own_v0_14 q1) (own_v0_124 q1 q5 q6))) = (0 : Int32)) := own_inw _
    refine own_ifN X400 at_470 (feq hk403).1 (pc' := 473) rfl ?_
    refine own_aload X400 at_473 (pc' := 475) rfl (v := (.ref b341)) rfl rfl ?_
    refine own_iconst X400 at_475 (pc' := 476) rfl (z := (1 : Int32)) rfl ?_
    refine own_laload X400 V382 (by decide) (by decide) (y := (own_v2_36 (own_v0_14 q1) (own_v0_22 q1) (own_v0_124 q1 q5 q6) (own_v0_144 q1 q5 q6))) rfl at_476 (pc' := 477) rfl ?_
    refine own_callS X400 (argsL := [(.long (own_v2_36 (own_v0_14 q1) (own_v0_22 q1) (own_v0_124 q1 q5 q6) (own_v0_144 q1 q5 q6)))]) (S := []) (own_rm3 l Z a0 hw (own_v2_36 (own_v0_14 q1) (own_v0_22 q1) (own_v0_124 q1 q5 q6) (own_v0_144 q1 q5 q6)) h376 n0 X400.2.2.2.2.2.2.2.2.1 ) (hw _ (List.mem_of_getElem? (i := 13) rfl)) (hw _ (List.mem_of_getElem? (i := 14) rfl)) (hw _ (List.mem_of_getElem? (i := 4) rfl)) (hw _ (List.mem_of_getElem? (i := 15) rfl)) (by decide) (by decide) 0 (by decide) rfl own_pd2 rfl rfl (Nat.le_of_eq rfl) (by decide) (by decide) at_477 (pc' := 480) rfl fun T404 h405 lc406 r407 X408 Q409 => ?_
    obtain ⟨rfl, e410⟩ := Q409
    replace e410 := e410.symm
    subst e410
    show own_E p e below _ (T404.setTop (mkF m 480 #[.val (.long q1), .second, .val (.long q2), .second, .val (.long q3), .second, .val (.long q4), .second, .val (.long q5), .second, .val (.long q6), .second, .val (.ref b1), .val (.long (own_v0_86 q5)), .second, .val (.long (own_v0_93 q5)), .second, .val (.long (own_v0_100 q6)), .second, .val (.ref b57), .val (.ref b179), .val (.ref b255), .val (.ref b341), .val (.ref b357), .val (.long (own_v0_440 q1 q2 q3 q4 q5 q6)), .second, .unset, .unset, .unset] [(.int (own_v0_477 q1 q5 q6))]))
    have hk411 : ¬ ((own_v0_477 q1 q5 q6) = (0 : Int32)) := own_inw _
    refine own_ifN X408 at_480 (feq hk411).1 (pc' := 483) rfl ?_
    refine own_aload X408 at_483 (pc' := 485) rfl (v := (.ref b341)) rfl rfl ?_
    refine own_iconst X408 at_485 (pc' := 486) rfl (z := (2 : Int32)) rfl ?_
    refine own_laload X408 V382 (by decide) (by decide) (y := (own_v2_57 (own_v0_14 q1) (own_v0_22 q1) (own_v0_31 q2) (own_v0_124 q1 q5 q6) (own_v0_144 q1 q5 q6) (own_v0_164 q2 q5 q6))) rfl at_486 (pc' := 487) rfl ?_
    refine own_callS X408 (argsL := [(.long (own_v2_57 (own_v0_14 q1) (own_v0_22 q1) (own_v0_31 q2) (own_v0_124 q1 q5 q6) (own_v0_144 q1 q5 q6) (own_v0_164 q2 q5 q6)))]) (S := []) (own_rm3 l Z a0 hw (own_v2_57 (own_v0_14 q1) (own_v0_22 q1) (own_v0_31 q2) (own_v0_124 q1 q5 q6) (own_v0_144 q1 q5 q6) (own_v0_164 q2 q5 q6)) h376 n0 X408.2.2.2.2.2.2.2.2.1 ) (hw _ (List.mem_of_getElem? (i := 13) rfl)) (hw _ (List.mem_of_getElem? (i := 14) rfl)) (hw _ (List.mem_of_getElem? (i := 4) rfl)) (hw _ (List.mem_of_getElem? (i := 15) rfl)) (by decide) (by decide) 0 (by decide) rfl own_pd2 rfl rfl (Nat.le_of_eq rfl) (by decide) (by decide) at_487 (pc' := 490) rfl fun T412 h413 lc414 r415 X416 Q417 => ?_
    obtain ⟨rfl, e418⟩ := Q417
    replace e418 := e418.symm
    subst e418
    show own_E p e below _ (T412.setTop (mkF m 490 #[.val (.long q1), .second, .val (.long q2), .second, .val (.long q3), .second, .val (.long q4), .second, .val (.long q5), .second, .val (.long q6), .second, .val (.ref b1), .val (.long (own_v0_86 q5)), .second, .val (.long (own_v0_93 q5)), .second, .val (.long (own_v0_100 q6)), .second, .val (.ref b57), .val (.ref b179), .val (.ref b255), .val (.ref b341), .val (.ref b357), .val (.long (own_v0_440 q1 q2 q3 q4 q5 q6)), .second, .unset, .unset, .unset] [(.int (own_v0_487 q1 q2 q5 q6))]))
    have hk419 : ¬ ((own_v0_487 q1 q2 q5 q6) = (0 : Int32)) := own_inw _
    refine own_ifN X416 at_490 (feq hk419).1 (pc' := 493) rfl ?_
    refine own_aload X416 at_493 (pc' := 495) rfl (v := (.ref b341)) rfl rfl ?_
    refine own_iconst X416 at_495 (pc' := 496) rfl (z := (3 : Int32)) rfl ?_
    refine own_laload X416 V382 (by decide) (by decide) (y := (own_v2_78 (own_v0_14 q1) (own_v0_22 q1) (own_v0_31 q2) (own_v0_39 q2) (own_v0_124 q1 q5 q6) (own_v0_144 q1 q5 q6) (own_v0_164 q2 q5 q6) (own_v0_184 q2 q5 q6))) rfl at_496 (pc' := 497) rfl ?_
    refine own_callS X416 (argsL := [(.long (own_v2_78 (own_v0_14 q1) (own_v0_22 q1) (own_v0_31 q2) (own_v0_39 q2) (own_v0_124 q1 q5 q6) (own_v0_144 q1 q5 q6) (own_v0_164 q2 q5 q6) (own_v0_184 q2 q5 q6)))]) (S := []) (own_rm3 l Z a0 hw (own_v2_78 (own_v0_14 q1) (own_v0_22 q1) (own_v0_31 q2) (own_v0_39 q2) (own_v0_124 q1 q5 q6) (own_v0_144 q1 q5 q6) (own_v0_164 q2 q5 q6) (own_v0_184 q2 q5 q6)) h376 n0 X416.2.2.2.2.2.2.2.2.1 ) (hw _ (List.mem_of_getElem? (i := 13) rfl)) (hw _ (List.mem_of_getElem? (i := 14) rfl)) (hw _ (List.mem_of_getElem? (i := 4) rfl)) (hw _ (List.mem_of_getElem? (i := 15) rfl)) (by decide) (by decide) 0 (by decide) rfl own_pd2 rfl rfl (Nat.le_of_eq rfl) (by decide) (by decide) at_497 (pc' := 500) rfl fun T420 h421 lc422 r423 X424 Q425 => ?_
    obtain ⟨rfl, e426⟩ := Q425
    replace e426 := e426.symm
    subst e426
    show own_E p e below _ (T420.setTop (mkF m 500 #[.val (.long q1), .second, .val (.long q2), .second, .val (.long q3), .second, .val (.long q4), .second, .val (.long q5), .second, .val (.long q6), .second, .val (.ref b1), .val (.long (own_v0_86 q5)), .second, .val (.long (own_v0_93 q5)), .second, .val (.long (own_v0_100 q6)), .second, .val (.ref b57), .val (.ref b179), .val (.ref b255), .val (.ref b341), .val (.ref b357), .val (.long (own_v0_440 q1 q2 q3 q4 q5 q6)), .second, .unset, .unset, .unset] [(.int (own_v0_497 q1 q2 q5 q6))]))
    have hk427 : ¬ ((own_v0_497 q1 q2 q5 q6) = (0 : Int32)) := own_inw _
    refine own_ifN X424 at_500 (feq hk427).1 (pc' := 503) rfl ?_
    refine own_aload X424 at_503 (pc' := 505) rfl (v := (.ref b341)) rfl rfl ?_
    refine own_iconst X424 at_505 (pc' := 506) rfl (z := (4 : Int32)) rfl ?_
    refine own_laload X424 V382 (by decide) (by decide) (y := (own_v2_99 (own_v0_14 q1) (own_v0_22 q1) (own_v0_31 q2) (own_v0_39 q2) (own_v0_49 q3) (own_v0_124 q1 q5 q6) (own_v0_144 q1 q5 q6) (own_v0_164 q2 q5 q6) (own_v0_184 q2 q5 q6) (own_v0_204 q3 q5 q6))) rfl at_506 (pc' := 507) rfl ?_
    refine own_callS X424 (argsL := [(.long (own_v2_99 (own_v0_14 q1) (own_v0_22 q1) (own_v0_31 q2) (own_v0_39 q2) (own_v0_49 q3) (own_v0_124 q1 q5 q6) (own_v0_144 q1 q5 q6) (own_v0_164 q2 q5 q6) (own_v0_184 q2 q5 q6) (own_v0_204 q3 q5 q6)))]) (S := []) (own_rm3 l Z a0 hw (own_v2_99 (own_v0_14 q1) (own_v0_22 q1) (own_v0_31 q2) (own_v0_39 q2) (own_v0_49 q3) (own_v0_124 q1 q5 q6) (own_v0_144 q1 q5 q6) (own_v0_164 q2 q5 q6) (own_v0_184 q2 q5 q6) (own_v0_204 q3 q5 q6)) h376 n0 X424.2.2.2.2.2.2.2.2.1 ) (hw _ (List.mem_of_getElem? (i := 13) rfl)) (hw _ (List.mem_of_getElem? (i := 14) rfl)) (hw _ (List.mem_of_getElem? (i := 4) rfl)) (hw _ (List.mem_of_getElem? (i := 15) rfl)) (by decide) (by decide) 0 (by decide) rfl own_pd2 rfl rfl (Nat.le_of_eq rfl) (by decide) (by decide) at_507 (pc' := 510) rfl fun T428 h429 lc430 r431 X432 Q433 => ?_
    obtain ⟨rfl, e434⟩ := Q433
    replace e434 := e434.symm
    subst e434
    show own_E p e below _ (T428.setTop (mkF m 510 #[.val (.long q1), .second, .val (.long q2), .second, .val (.long q3), .second, .val (.long q4), .second, .val (.long q5), .second, .val (.long q6), .second, .val (.ref b1), .val (.long (own_v0_86 q5)), .second, .val (.long (own_v0_93 q5)), .second, .val (.long (own_v0_100 q6)), .second, .val (.ref b57), .val (.ref b179), .val (.ref b255), .val (.ref b341), .val (.ref b357), .val (.long (own_v0_440 q1 q2 q3 q4 q5 q6)), .second, .unset, .unset, .unset] [(.int (own_v0_507 q1 q2 q3 q5 q6))]))
    have hk435 : ¬ ((own_v0_507 q1 q2 q3 q5 q6) = (0 : Int32)) := own_inw _
    refine own_ifN X432 at_510 (feq hk435).1 (pc' := 513) rfl ?_
    refine own_aload X432 at_513 (pc' := 515) rfl (v := (.ref b341)) rfl rfl ?_
    refine own_iconst X432 at_515 (pc' := 516) rfl (z := (5 : Int32)) rfl ?_
    refine own_laload X432 V382 (by decide) (by decide) (y := (own_v2_120 (own_v0_14 q1) (own_v0_22 q1) (own_v0_31 q2) (own_v0_39 q2) (own_v0_49 q3) (own_v0_58 q3) (own_v0_124 q1 q5 q6) (own_v0_144 q1 q5 q6) (own_v0_164 q2 q5 q6) (own_v0_184 q2 q5 q6) (own_v0_204 q3 q5 q6) (own_v0_224 q3 q5 q6))) rfl at_516 (pc' := 517) rfl ?_
    refine own_callS X432 (argsL := [(.long (own_v2_120 (own_v0_14 q1) (own_v0_22 q1) (own_v0_31 q2) (own_v0_39 q2) (own_v0_49 q3) (own_v0_58 q3) (own_v0_124 q1 q5 q6) (own_v0_144 q1 q5 q6) (own_v0_164 q2 q5 q6) (own_v0_184 q2 q5 q6) (own_v0_204 q3 q5 q6) (own_v0_224 q3 q5 q6)))]) (S := []) (own_rm3 l Z a0 hw (own_v2_120 (own_v0_14 q1) (own_v0_22 q1) (own_v0_31 q2) (own_v0_39 q2) (own_v0_49 q3) (own_v0_58 q3) (own_v0_124 q1 q5 q6) (own_v0_144 q1 q5 q6) (own_v0_164 q2 q5 q6) (own_v0_184 q2 q5 q6) (own_v0_204 q3 q5 q6) (own_v0_224 q3 q5 q6)) h376 n0 X432.2.2.2.2.2.2.2.2.1 ) (hw _ (List.mem_of_getElem? (i := 13) rfl)) (hw _ (List.mem_of_getElem? (i := 14) rfl)) (hw _ (List.mem_of_getElem? (i := 4) rfl)) (hw _ (List.mem_of_getElem? (i := 15) rfl)) (by decide) (by decide) 0 (by decide) rfl own_pd2 rfl rfl (Nat.le_of_eq rfl) (by decide) (by decide) at_517 (pc' := 520) rfl fun T436 h437 lc438 r439 X440 Q441 => ?_
    obtain ⟨rfl, e442⟩ := Q441
    replace e442 := e442.symm
    subst e442
    show own_E p e below _ (T436.setTop (mkF m 520 #[.val (.long q1), .second, .val (.long q2), .second, .val (.long q3), .second, .val (.long q4), .second, .val (.long q5), .second, .val (.long q6), .second, .val (.ref b1), .val (.long (own_v0_86 q5)), .second, .val (.long (own_v0_93 q5)), .second, .val (.long (own_v0_100 q6)), .second, .val (.ref b57), .val (.ref b179), .val (.ref b255), .val (.ref b341), .val (.ref b357), .val (.long (own_v0_440 q1 q2 q3 q4 q5 q6)), .second, .unset, .unset, .unset] [(.int (own_v0_517 q1 q2 q3 q5 q6))]))
    have hk443 : ¬ ((own_v0_517 q1 q2 q3 q5 q6) = (0 : Int32)) := own_inw _
    refine own_ifN X440 at_520 (feq hk443).1 (pc' := 523) rfl ?_
    refine own_aload X440 at_523 (pc' := 525) rfl (v := (.ref b341)) rfl rfl ?_
    refine own_bipush X440 at_525 (pc' := 527) rfl (z := (6 : Int32)) rfl ?_
    refine own_laload X440 V382 (by decide) (by decide) (y := (own_v2_144 (own_v0_14 q1) (own_v0_22 q1) (own_v0_31 q2) (own_v0_39 q2) (own_v0_49 q3) (own_v0_58 q3) (own_v0_69 q4) (own_v0_124 q1 q5 q6) (own_v0_144 q1 q5 q6) (own_v0_164 q2 q5 q6) (own_v0_184 q2 q5 q6) (own_v0_204 q3 q5 q6) (own_v0_224 q3 q5 q6) (own_v0_247 q4 q5 q6))) rfl at_527 (pc' := 528) rfl ?_
    refine own_callS X440 (argsL := [(.long (own_v2_144 (own_v0_14 q1) (own_v0_22 q1) (own_v0_31 q2) (own_v0_39 q2) (own_v0_49 q3) (own_v0_58 q3) (own_v0_69 q4) (own_v0_124 q1 q5 q6) (own_v0_144 q1 q5 q6) (own_v0_164 q2 q5 q6) (own_v0_184 q2 q5 q6) (own_v0_204 q3 q5 q6) (own_v0_224 q3 q5 q6) (own_v0_247 q4 q5 q6)))]) (S := []) (own_rm3 l Z a0 hw (own_v2_144 (own_v0_14 q1) (own_v0_22 q1) (own_v0_31 q2) (own_v0_39 q2) (own_v0_49 q3) (own_v0_58 q3) (own_v0_69 q4) (own_v0_124 q1 q5 q6) (own_v0_144 q1 q5 q6) (own_v0_164 q2 q5 q6) (own_v0_184 q2 q5 q6) (own_v0_204 q3 q5 q6) (own_v0_224 q3 q5 q6) (own_v0_247 q4 q5 q6)) h376 n0 X440.2.2.2.2.2.2.2.2.1 ) (hw _ (List.mem_of_getElem? (i := 13) rfl)) (hw _ (List.mem_of_getElem? (i := 14) rfl)) (hw _ (List.mem_of_getElem? (i := 4) rfl)) (hw _ (List.mem_of_getElem? (i := 15) rfl)) (by decide) (by decide) 0 (by decide) rfl own_pd2 rfl rfl (Nat.le_of_eq rfl) (by decide) (by decide) at_528 (pc' := 531) rfl fun T444 h445 lc446 r447 X448 Q449 => ?_
    obtain ⟨rfl, e450⟩ := Q449
    replace e450 := e450.symm
    subst e450
    show own_E p e below _ (T444.setTop (mkF m 531 #[.val (.long q1), .second, .val (.long q2), .second, .val (.long q3), .second, .val (.long q4), .second, .val (.long q5), .second, .val (.long q6), .second, .val (.ref b1), .val (.long (own_v0_86 q5)), .second, .val (.long (own_v0_93 q5)), .second, .val (.long (own_v0_100 q6)), .second, .val (.ref b57), .val (.ref b179), .val (.ref b255), .val (.ref b341), .val (.ref b357), .val (.long (own_v0_440 q1 q2 q3 q4 q5 q6)), .second, .unset, .unset, .unset] [(.int (own_v0_528 q1 q2 q3 q4 q5 q6))]))
    have hk451 : ¬ ((own_v0_528 q1 q2 q3 q4 q5 q6) = (0 : Int32)) := own_inw _
    refine own_ifN X448 at_531 (feq hk451).1 (pc' := 534) rfl ?_
    refine own_aload X448 at_534 (pc' := 536) rfl (v := (.ref b341)) rfl rfl ?_
    refine own_bipush X448 at_536 (pc' := 538) rfl (z := (7 : Int32)) rfl ?_
    refine own_laload X448 V382 (by decide) (by decide) (y := (own_v2_168 (own_v0_14 q1) (own_v0_22 q1) (own_v0_31 q2) (own_v0_39 q2) (own_v0_49 q3) (own_v0_58 q3) (own_v0_69 q4) (own_v0_79 q4) (own_v0_124 q1 q5 q6) (own_v0_144 q1 q5 q6) (own_v0_164 q2 q5 q6) (own_v0_184 q2 q5 q6) (own_v0_204 q3 q5 q6) (own_v0_224 q3 q5 q6) (own_v0_247 q4 q5 q6) (own_v0_270 q4 q5 q6))) rfl at_538 (pc' := 539) rfl ?_
    refine own_callS X448 (argsL := [(.long (own_v2_168 (own_v0_14 q1) (own_v0_22 q1) (own_v0_31 q2) (own_v0_39 q2) (own_v0_49 q3) (own_v0_58 q3) (own_v0_69 q4) (own_v0_79 q4) (own_v0_124 q1 q5 q6) (own_v0_144 q1 q5 q6) (own_v0_164 q2 q5 q6) (own_v0_184 q2 q5 q6) (own_v0_204 q3 q5 q6) (own_v0_224 q3 q5 q6) (own_v0_247 q4 q5 q6) (own_v0_270 q4 q5 q6)))]) (S := []) (own_rm3 l Z a0 hw (own_v2_168 (own_v0_14 q1) (own_v0_22 q1) (own_v0_31 q2) (own_v0_39 q2) (own_v0_49 q3) (own_v0_58 q3) (own_v0_69 q4) (own_v0_79 q4) (own_v0_124 q1 q5 q6) (own_v0_144 q1 q5 q6) (own_v0_164 q2 q5 q6) (own_v0_184 q2 q5 q6) (own_v0_204 q3 q5 q6) (own_v0_224 q3 q5 q6) (own_v0_247 q4 q5 q6) (own_v0_270 q4 q5 q6)) h376 n0 X448.2.2.2.2.2.2.2.2.1 ) (hw _ (List.mem_of_getElem? (i := 13) rfl)) (hw _ (List.mem_of_getElem? (i := 14) rfl)) (hw _ (List.mem_of_getElem? (i := 4) rfl)) (hw _ (List.mem_of_getElem? (i := 15) rfl)) (by decide) (by decide) 0 (by decide) rfl own_pd2 rfl rfl (Nat.le_of_eq rfl) (by decide) (by decide) at_539 (pc' := 542) rfl fun T452 h453 lc454 r455 X456 Q457 => ?_
    obtain ⟨rfl, e458⟩ := Q457
    replace e458 := e458.symm
    subst e458
    show own_E p e below _ (T452.setTop (mkF m 542 #[.val (.long q1), .second, .val (.long q2), .second, .val (.long q3), .second, .val (.long q4), .second, .val (.long q5), .second, .val (.long q6), .second, .val (.ref b1), .val (.long (own_v0_86 q5)), .second, .val (.long (own_v0_93 q5)), .second, .val (.long (own_v0_100 q6)), .second, .val (.ref b57), .val (.ref b179), .val (.ref b255), .val (.ref b341), .val (.ref b357), .val (.long (own_v0_440 q1 q2 q3 q4 q5 q6)), .second, .unset, .unset, .unset] [(.int (own_v0_539 q1 q2 q3 q4 q5 q6))]))
    have hk459 : ¬ ((own_v0_539 q1 q2 q3 q4 q5 q6) = (0 : Int32)) := own_inw _
    refine own_ifY X456 at_542 (feq hk459).2 (by decide) (pc' := 547) rfl ?_
    refine own_aload X456 at_547 (pc' := 549) rfl (v := (.ref b1)) rfl rfl ?_
    refine own_iconst X456 at_549 (pc' := 550) rfl (z := (0 : Int32)) rfl ?_
    refine own_laload X456 V383 (by decide) (by decide) (y := (own_v0_14 q1)) rfl at_550 (pc' := 551) rfl ?_
    refine own_aload X456 at_551 (pc' := 553) rfl (v := (.ref b179)) rfl rfl ?_
    refine own_iconst X456 at_553 (pc' := 554) rfl (z := (0 : Int32)) rfl ?_
    refine own_laload X456 V385 (by decide) (by decide) (y := (own_v0_14 q1)) rfl at_554 (pc' := 555) rfl ?_
    have hk460 : (own_v0_14 q1) = (own_v0_14 q1) := rfl
    refine own_ljN X456 at_555 rfl at_556 (own_teqL hk460).2 (pc' := 559) rfl ?_
    refine own_aload X456 at_559 (pc' := 561) rfl (v := (.ref b1)) rfl rfl ?_
    refine own_iconst X456 at_561 (pc' := 562) rfl (z := (1 : Int32)) rfl ?_
    refine own_laload X456 V383 (by decide) (by decide) (y := (own_v0_22 q1)) rfl at_562 (pc' := 563) rfl ?_
    refine own_aload X456 at_563 (pc' := 565) rfl (v := (.ref b179)) rfl rfl ?_
    refine own_iconst X456 at_565 (pc' := 566) rfl (z := (1 : Int32)) rfl ?_
    refine own_laload X456 V385 (by decide) (by decide) (y := (own_v0_22 q1)) rfl at_566 (pc' := 567) rfl ?_
    have hk461 : (own_v0_22 q1) = (own_v0_22 q1) := rfl
    refine own_ljN X456 at_567 rfl at_568 (own_teqL hk461).2 (pc' := 571) rfl ?_
    refine own_aload X456 at_571 (pc' := 573) rfl (v := (.ref b1)) rfl rfl ?_
    refine own_iconst X456 at_573 (pc' := 574) rfl (z := (2 : Int32)) rfl ?_
    refine own_laload X456 V383 (by decide) (by decide) (y := (own_v0_31 q2)) rfl at_574 (pc' := 575) rfl ?_
    refine own_aload X456 at_575 (pc' := 577) rfl (v := (.ref b179)) rfl rfl ?_
    refine own_iconst X456 at_577 (pc' := 578) rfl (z := (2 : Int32)) rfl ?_
    refine own_laload X456 V385 (by decide) (by decide) (y := (own_v0_31 q2)) rfl at_578 (pc' := 579) rfl ?_
    have hk462 : (own_v0_31 q2) = (own_v0_31 q2) := rfl
    refine own_ljN X456 at_579 rfl at_580 (own_teqL hk462).2 (pc' := 583) rfl ?_
    refine own_aload X456 at_583 (pc' := 585) rfl (v := (.ref b1)) rfl rfl ?_
    refine own_iconst X456 at_585 (pc' := 586) rfl (z := (3 : Int32)) rfl ?_
    refine own_laload X456 V383 (by decide) (by decide) (y := (own_v0_39 q2)) rfl at_586 (pc' := 587) rfl ?_
    refine own_aload X456 at_587 (pc' := 589) rfl (v := (.ref b179)) rfl rfl ?_
    refine own_iconst X456 at_589 (pc' := 590) rfl (z := (3 : Int32)) rfl ?_
    refine own_laload X456 V385 (by decide) (by decide) (y := (own_v0_39 q2)) rfl at_590 (pc' := 591) rfl ?_
    have hk463 : (own_v0_39 q2) = (own_v0_39 q2) := rfl
    refine own_ljN X456 at_591 rfl at_592 (own_teqL hk463).2 (pc' := 595) rfl ?_
    refine own_aload X456 at_595 (pc' := 597) rfl (v := (.ref b1)) rfl rfl ?_
    refine own_iconst X456 at_597 (pc' := 598) rfl (z := (4 : Int32)) rfl ?_
    refine own_laload X456 V383 (by decide) (by decide) (y := (own_v0_49 q3)) rfl at_598 (pc' := 599) rfl ?_
    refine own_aload X456 at_599 (pc' := 601) rfl (v := (.ref b179)) rfl rfl ?_
    refine own_iconst X456 at_601 (pc' := 602) rfl (z := (4 : Int32)) rfl ?_
    refine own_laload X456 V385 (by decide) (by decide) (y := (own_v0_49 q3)) rfl at_602 (pc' := 603) rfl ?_
    have hk464 : (own_v0_49 q3) = (own_v0_49 q3) := rfl
    refine own_ljN X456 at_603 rfl at_604 (own_teqL hk464).2 (pc' := 607) rfl ?_
    refine own_aload X456 at_607 (pc' := 609) rfl (v := (.ref b1)) rfl rfl ?_
    refine own_iconst X456 at_609 (pc' := 610) rfl (z := (5 : Int32)) rfl ?_
    refine own_laload X456 V383 (by decide) (by decide) (y := (own_v0_58 q3)) rfl at_610 (pc' := 611) rfl ?_
    refine own_aload X456 at_611 (pc' := 613) rfl (v := (.ref b179)) rfl rfl ?_
    refine own_iconst X456 at_613 (pc' := 614) rfl (z := (5 : Int32)) rfl ?_
    refine own_laload X456 V385 (by decide) (by decide) (y := (own_v0_58 q3)) rfl at_614 (pc' := 615) rfl ?_
    have hk465 : (own_v0_58 q3) = (own_v0_58 q3) := rfl
    refine own_ljN X456 at_615 rfl at_616 (own_teqL hk465).2 (pc' := 619) rfl ?_
    refine own_aload X456 at_619 (pc' := 621) rfl (v := (.ref b1)) rfl rfl ?_
    refine own_bipush X456 at_621 (pc' := 623) rfl (z := (6 : Int32)) rfl ?_
    refine own_laload X456 V383 (by decide) (by decide) (y := (own_v0_69 q4)) rfl at_623 (pc' := 624) rfl ?_
    refine own_aload X456 at_624 (pc' := 626) rfl (v := (.ref b179)) rfl rfl ?_
    refine own_bipush X456 at_626 (pc' := 628) rfl (z := (6 : Int32)) rfl ?_
    refine own_laload X456 V385 (by decide) (by decide) (y := (own_v0_69 q4)) rfl at_628 (pc' := 629) rfl ?_
    have hk466 : (own_v0_69 q4) = (own_v0_69 q4) := rfl
    refine own_ljN X456 at_629 rfl at_630 (own_teqL hk466).2 (pc' := 633) rfl ?_
    refine own_aload X456 at_633 (pc' := 635) rfl (v := (.ref b1)) rfl rfl ?_
    refine own_bipush X456 at_635 (pc' := 637) rfl (z := (7 : Int32)) rfl ?_
    refine own_laload X456 V383 (by decide) (by decide) (y := (own_v0_79 q4)) rfl at_637 (pc' := 638) rfl ?_
    refine own_aload X456 at_638 (pc' := 640) rfl (v := (.ref b179)) rfl rfl ?_
    refine own_bipush X456 at_640 (pc' := 642) rfl (z := (7 : Int32)) rfl ?_
    refine own_laload X456 V385 (by decide) (by decide) (y := (own_v0_79 q4)) rfl at_642 (pc' := 643) rfl ?_
    have hk467 : (own_v0_79 q4) = (own_v0_79 q4) := rfl
    refine own_ljN X456 at_643 rfl at_644 (own_teqL hk467).2 (pc' := 647) rfl ?_
    refine own_aload X456 at_647 (pc' := 649) rfl (v := (.ref b57)) rfl rfl ?_
    refine own_iconst X456 at_649 (pc' := 650) rfl (z := (0 : Int32)) rfl ?_
    refine own_laload X456 V384 (by decide) (by decide) (y := (own_v0_124 q1 q5 q6)) rfl at_650 (pc' := 651) rfl ?_
    refine own_aload X456 at_651 (pc' := 653) rfl (v := (.ref b255)) rfl rfl ?_
    refine own_iconst X456 at_653 (pc' := 654) rfl (z := (0 : Int32)) rfl ?_
    refine own_laload X456 V386 (by decide) (by decide) (y := (own_v0_124 q1 q5 q6)) rfl at_654 (pc' := 655) rfl ?_
    have hk468 : (own_v0_124 q1 q5 q6) = (own_v0_124 q1 q5 q6) := rfl
    refine own_ljN X456 at_655 rfl at_656 (own_teqL hk468).2 (pc' := 659) rfl ?_
    refine own_aload X456 at_659 (pc' := 661) rfl (v := (.ref b57)) rfl rfl ?_
    refine own_iconst X456 at_661 (pc' := 662) rfl (z := (1 : Int32)) rfl ?_
    refine own_laload X456 V384 (by decide) (by decide) (y := (own_v0_144 q1 q5 q6)) rfl at_662 (pc' := 663) rfl ?_
    refine own_aload X456 at_663 (pc' := 665) rfl (v := (.ref b255)) rfl rfl ?_
    refine own_iconst X456 at_665 (pc' := 666) rfl (z := (1 : Int32)) rfl ?_
    refine own_laload X456 V386 (by decide) (by decide) (y := (own_v0_144 q1 q5 q6)) rfl at_666 (pc' := 667) rfl ?_
    have hk469 : (own_v0_144 q1 q5 q6) = (own_v0_144 q1 q5 q6) := rfl
    refine own_ljN X456 at_667 rfl at_668 (own_teqL hk469).2 (pc' := 671) rfl ?_
    refine own_aload X456 at_671 (pc' := 673) rfl (v := (.ref b57)) rfl rfl ?_
    refine own_iconst X456 at_673 (pc' := 674) rfl (z := (2 : Int32)) rfl ?_
    refine own_laload X456 V384 (by decide) (by decide) (y := (own_v0_164 q2 q5 q6)) rfl at_674 (pc' := 675) rfl ?_
    refine own_aload X456 at_675 (pc' := 677) rfl (v := (.ref b255)) rfl rfl ?_
    refine own_iconst X456 at_677 (pc' := 678) rfl (z := (2 : Int32)) rfl ?_
    refine own_laload X456 V386 (by decide) (by decide) (y := (own_v0_164 q2 q5 q6)) rfl at_678 (pc' := 679) rfl ?_
    have hk470 : (own_v0_164 q2 q5 q6) = (own_v0_164 q2 q5 q6) := rfl
    refine own_ljN X456 at_679 rfl at_680 (own_teqL hk470).2 (pc' := 683) rfl ?_
    refine own_aload X456 at_683 (pc' := 685) rfl (v := (.ref b57)) rfl rfl ?_
    refine own_iconst X456 at_685 (pc' := 686) rfl (z := (3 : Int32)) rfl ?_
    refine own_laload X456 V384 (by decide) (by decide) (y := (own_v0_184 q2 q5 q6)) rfl at_686 (pc' := 687) rfl ?_
    refine own_aload X456 at_687 (pc' := 689) rfl (v := (.ref b255)) rfl rfl ?_
    refine own_iconst X456 at_689 (pc' := 690) rfl (z := (3 : Int32)) rfl ?_
    refine own_laload X456 V386 (by decide) (by decide) (y := (own_v0_184 q2 q5 q6)) rfl at_690 (pc' := 691) rfl ?_
    have hk471 : (own_v0_184 q2 q5 q6) = (own_v0_184 q2 q5 q6) := rfl
    refine own_ljN X456 at_691 rfl at_692 (own_teqL hk471).2 (pc' := 695) rfl ?_
    refine own_aload X456 at_695 (pc' := 697) rfl (v := (.ref b57)) rfl rfl ?_
    refine own_iconst X456 at_697 (pc' := 698) rfl (z := (4 : Int32)) rfl ?_
    refine own_laload X456 V384 (by decide) (by decide) (y := (own_v0_204 q3 q5 q6)) rfl at_698 (pc' := 699) rfl ?_
    refine own_aload X456 at_699 (pc' := 701) rfl (v := (.ref b255)) rfl rfl ?_
    refine own_iconst X456 at_701 (pc' := 702) rfl (z := (4 : Int32)) rfl ?_
    refine own_laload X456 V386 (by decide) (by decide) (y := (own_v0_204 q3 q5 q6)) rfl at_702 (pc' := 703) rfl ?_
    have hk472 : (own_v0_204 q3 q5 q6) = (own_v0_204 q3 q5 q6) := rfl
    refine own_ljN X456 at_703 rfl at_704 (own_teqL hk472).2 (pc' := 707) rfl ?_
    refine own_aload X456 at_707 (pc' := 709) rfl (v := (.ref b57)) rfl rfl ?_
    refine own_iconst X456 at_709 (pc' := 710) rfl (z := (5 : Int32)) rfl ?_
    refine own_laload X456 V384 (by decide) (by decide) (y := (own_v0_224 q3 q5 q6)) rfl at_710 (pc' := 711) rfl ?_
    refine own_aload X456 at_711 (pc' := 713) rfl (v := (.ref b255)) rfl rfl ?_
    refine own_iconst X456 at_713 (pc' := 714) rfl (z := (5 : Int32)) rfl ?_
    refine own_laload X456 V386 (by decide) (by decide) (y := (own_v0_224 q3 q5 q6)) rfl at_714 (pc' := 715) rfl ?_
    have hk473 : (own_v0_224 q3 q5 q6) = (own_v0_224 q3 q5 q6) := rfl
    refine own_ljN X456 at_715 rfl at_716 (own_teqL hk473).2 (pc' := 719) rfl ?_
    refine own_aload X456 at_719 (pc' := 721) rfl (v := (.ref b57)) rfl rfl ?_
    refine own_bipush X456 at_721 (pc' := 723) rfl (z := (6 : Int32)) rfl ?_
    refine own_laload X456 V384 (by decide) (by decide) (y := (own_v0_247 q4 q5 q6)) rfl at_723 (pc' := 724) rfl ?_
    refine own_aload X456 at_724 (pc' := 726) rfl (v := (.ref b255)) rfl rfl ?_
    refine own_bipush X456 at_726 (pc' := 728) rfl (z := (6 : Int32)) rfl ?_
    refine own_laload X456 V386 (by decide) (by decide) (y := (own_v0_247 q4 q5 q6)) rfl at_728 (pc' := 729) rfl ?_
    have hk474 : (own_v0_247 q4 q5 q6) = (own_v0_247 q4 q5 q6) := rfl
    refine own_ljN X456 at_729 rfl at_730 (own_teqL hk474).2 (pc' := 733) rfl ?_
    refine own_aload X456 at_733 (pc' := 735) rfl (v := (.ref b57)) rfl rfl ?_
    refine own_bipush X456 at_735 (pc' := 737) rfl (z := (7 : Int32)) rfl ?_
    refine own_laload X456 V384 (by decide) (by decide) (y := (own_v0_270 q4 q5 q6)) rfl at_737 (pc' := 738) rfl ?_
    refine own_aload X456 at_738 (pc' := 740) rfl (v := (.ref b255)) rfl rfl ?_
    refine own_bipush X456 at_740 (pc' := 742) rfl (z := (7 : Int32)) rfl ?_
    refine own_laload X456 V386 (by decide) (by decide) (y := (own_v0_270 q4 q5 q6)) rfl at_742 (pc' := 743) rfl ?_
    have hk475 : (own_v0_270 q4 q5 q6) = (own_v0_270 q4 q5 q6) := rfl
    refine own_ljN X456 at_743 rfl at_744 (own_teqL hk475).2 (pc' := 747) rfl ?_
    refine own_iconst X456 at_747 (pc' := 748) rfl (z := (1 : Int32)) rfl ?_
    refine own_goto X456 at_748 (by decide) (pc' := 752) rfl ?_
    refine own_istore X456 at_752 (pc' := 754) rfl (y := (1 : Int32)) rfl (Ls' := #[.val (.long q1), .second, .val (.long q2), .second, .val (.long q3), .second, .val (.long q4), .second, .val (.long q5), .second, .val (.long q6), .second, .val (.ref b1), .val (.long (own_v0_86 q5)), .second, .val (.long (own_v0_93 q5)), .second, .val (.long (own_v0_100 q6)), .second, .val (.ref b57), .val (.ref b179), .val (.ref b255), .val (.ref b341), .val (.ref b357), .val (.long (own_v0_440 q1 q2 q3 q4 q5 q6)), .second, .val (.int (1 : Int32)), .unset, .unset]) rfl ?_
    refine own_iload X456 at_754 (pc' := 756) rfl (v := (1 : Int32)) rfl ?_
    have hk476 : ¬ ((1 : Int32) = (0 : Int32)) := (by decide)
    refine own_ifY X456 at_756 (feq hk476).2 (by decide) (pc' := 761) rfl ?_
    refine own_aload X456 at_761 (pc' := 763) rfl (v := (.ref b357)) rfl rfl ?_
    refine own_aload X456 at_763 (pc' := 765) rfl (v := (.ref b341)) rfl rfl ?_
    refine own_aload X456 at_765 (pc' := 767) rfl (v := (.ref b255)) rfl rfl ?_
    refine own_callS X456 (argsL := [(.ref b357), (.ref b341), (.ref b255)]) (S := []) (own_rm4 l Z a0 hw b357 (0 : Int64) (0 : Int64) (0 : Int64) (0 : Int64) (0 : Int64) (0 : Int64) (0 : Int64) (0 : Int64) b341 (own_v2_15 (own_v0_14 q1) (own_v0_124 q1 q5 q6)) (own_v2_36 (own_v0_14 q1) (own_v0_22 q1) (own_v0_124 q1 q5 q6) (own_v0_144 q1 q5 q6)) (own_v2_57 (own_v0_14 q1) (own_v0_22 q1) (own_v0_31 q2) (own_v0_124 q1 q5 q6) (own_v0_144 q1 q5 q6) (own_v0_164 q2 q5 q6)) (own_v2_78 (own_v0_14 q1) (own_v0_22 q1) (own_v0_31 q2) (own_v0_39 q2) (own_v0_124 q1 q5 q6) (own_v0_144 q1 q5 q6) (own_v0_164 q2 q5 q6) (own_v0_184 q2 q5 q6)) (own_v2_99 (own_v0_14 q1) (own_v0_22 q1) (own_v0_31 q2) (own_v0_39 q2) (own_v0_49 q3) (own_v0_124 q1 q5 q6) (own_v0_144 q1 q5 q6) (own_v0_164 q2 q5 q6) (own_v0_184 q2 q5 q6) (own_v0_204 q3 q5 q6)) (own_v2_120 (own_v0_14 q1) (own_v0_22 q1) (own_v0_31 q2) (own_v0_39 q2) (own_v0_49 q3) (own_v0_58 q3) (own_v0_124 q1 q5 q6) (own_v0_144 q1 q5 q6) (own_v0_164 q2 q5 q6) (own_v0_184 q2 q5 q6) (own_v0_204 q3 q5 q6) (own_v0_224 q3 q5 q6)) (own_v2_144 (own_v0_14 q1) (own_v0_22 q1) (own_v0_31 q2) (own_v0_39 q2) (own_v0_49 q3) (own_v0_58 q3) (own_v0_69 q4) (own_v0_124 q1 q5 q6) (own_v0_144 q1 q5 q6) (own_v0_164 q2 q5 q6) (own_v0_184 q2 q5 q6) (own_v0_204 q3 q5 q6) (own_v0_224 q3 q5 q6) (own_v0_247 q4 q5 q6)) (own_v2_168 (own_v0_14 q1) (own_v0_22 q1) (own_v0_31 q2) (own_v0_39 q2) (own_v0_49 q3) (own_v0_58 q3) (own_v0_69 q4) (own_v0_79 q4) (own_v0_124 q1 q5 q6) (own_v0_144 q1 q5 q6) (own_v0_164 q2 q5 q6) (own_v0_184 q2 q5 q6) (own_v0_204 q3 q5 q6) (own_v0_224 q3 q5 q6) (own_v0_247 q4 q5 q6) (own_v0_270 q4 q5 q6)) b255 (own_v0_124 q1 q5 q6) (own_v0_144 q1 q5 q6) (own_v0_164 q2 q5 q6) (own_v0_184 q2 q5 q6) (own_v0_204 q3 q5 q6) (own_v0_224 q3 q5 q6) (own_v0_247 q4 q5 q6) (own_v0_270 q4 q5 q6) h376 n0 X456.2.2.2.2.2.2.2.2.1 V387 V382 V386 ne369 ne368 g363) (hw _ (List.mem_of_getElem? (i := 16) rfl)) (hw _ (List.mem_of_getElem? (i := 17) rfl)) (hw _ (List.mem_of_getElem? (i := 9) rfl)) (hw _ (List.mem_of_getElem? (i := 18) rfl)) (by decide) (by decide) 0 (by decide) rfl own_pd1 rfl rfl (Nat.le_of_eq rfl) (by decide) (by decide) at_767 (pc' := 770) rfl fun T477 h478 lc479 r480 X481 Q482 => ?_
    obtain ⟨rfl, K483, V484⟩ := Q482
    have V485 := V383.keep K483 (ninS ne365 nin0)
    have V486 := V384.keep K483 (ninS ne366 nin0)
    have V487 := V385.keep K483 (ninS ne367 nin0)
    have V488 := V386.keep K483 (ninS ne368 nin0)
    have V489 := V382.keep K483 (ninS ne369 nin0)
    show own_E p e below _ (T477.setTop (mkF m 770 #[.val (.long q1), .second, .val (.long q2), .second, .val (.long q3), .second, .val (.long q4), .second, .val (.long q5), .second, .val (.long q6), .second, .val (.ref b1), .val (.long (own_v0_86 q5)), .second, .val (.long (own_v0_93 q5)), .second, .val (.long (own_v0_100 q6)), .second, .val (.ref b57), .val (.ref b179), .val (.ref b255), .val (.ref b341), .val (.ref b357), .val (.long (own_v0_440 q1 q2 q3 q4 q5 q6)), .second, .val (.int (1 : Int32)), .unset, .unset] [(.long (own_v0_767 q1 q2 q3 q4 q5 q6))]))
    refine own_lstore X481 at_770 (pc' := 772) rfl (y := (own_v0_767 q1 q2 q3 q4 q5 q6)) rfl (Ls' := #[.val (.long q1), .second, .val (.long q2), .second, .val (.long q3), .second, .val (.long q4), .second, .val (.long q5), .second, .val (.long q6), .second, .val (.ref b1), .val (.long (own_v0_86 q5)), .second, .val (.long (own_v0_93 q5)), .second, .val (.long (own_v0_100 q6)), .second, .val (.ref b57), .val (.ref b179), .val (.ref b255), .val (.ref b341), .val (.ref b357), .val (.long (own_v0_440 q1 q2 q3 q4 q5 q6)), .second, .val (.int (1 : Int32)), .val (.long (own_v0_767 q1 q2 q3 q4 q5 q6)), .second]) rfl ?_
    refine own_lload X481 at_772 (pc' := 774) rfl (v := (own_v0_767 q1 q2 q3 q4 q5 q6)) rfl ?_
    refine own_lload X481 at_774 (pc' := 776) rfl (v := (own_v0_440 q1 q2 q3 q4 q5 q6)) rfl ?_
    refine own_lneg X481 at_776 (pc' := 777) rfl (z := (-(own_v0_440 q1 q2 q3 q4 q5 q6))) rfl ?_
    by_cases hc490 : (own_v0_767 q1 q2 q3 q4 q5 q6) = (-(own_v0_440 q1 q2 q3 q4 q5 q6))
    · refine own_ljN X481 at_777 rfl at_778 (own_teqL hc490).2 (pc' := 781) rfl ?_
      refine own_aload X481 at_781 (pc' := 783) rfl (v := (.ref b357)) rfl rfl ?_
      refine own_iconst X481 at_783 (pc' := 784) rfl (z := (0 : Int32)) rfl ?_
      refine own_laload X481 V484 (by decide) (by decide) (y := (own_v4_15 (own_v2_15 (own_v0_14 q1) (own_v0_124 q1 q5 q6)) (own_v0_124 q1 q5 q6))) rfl at_784 (pc' := 785) rfl ?_
      refine own_aload X481 at_785 (pc' := 787) rfl (v := (.ref b179)) rfl rfl ?_
      refine own_iconst X481 at_787 (pc' := 788) rfl (z := (0 : Int32)) rfl ?_
      refine own_laload X481 V487 (by decide) (by decide) (y := (own_v0_14 q1)) rfl at_788 (pc' := 789) rfl ?_
      by_cases hc491 : (own_v4_15 (own_v2_15 (own_v0_14 q1) (own_v0_124 q1 q5 q6)) (own_v0_124 q1 q5 q6)) = (own_v0_14 q1)
      · refine own_ljN X481 at_789 rfl at_790 (own_teqL hc491).2 (pc' := 793) rfl ?_
        refine own_aload X481 at_793 (pc' := 795) rfl (v := (.ref b357)) rfl rfl ?_
        refine own_iconst X481 at_795 (pc' := 796) rfl (z := (1 : Int32)) rfl ?_
        refine own_laload X481 V484 (by decide) (by decide) (y := (own_v4_36 (own_v2_15 (own_v0_14 q1) (own_v0_124 q1 q5 q6)) (own_v2_36 (own_v0_14 q1) (own_v0_22 q1) (own_v0_124 q1 q5 q6) (own_v0_144 q1 q5 q6)) (own_v0_124 q1 q5 q6) (own_v0_144 q1 q5 q6))) rfl at_796 (pc' := 797) rfl ?_
        refine own_aload X481 at_797 (pc' := 799) rfl (v := (.ref b179)) rfl rfl ?_
        refine own_iconst X481 at_799 (pc' := 800) rfl (z := (1 : Int32)) rfl ?_
        refine own_laload X481 V487 (by decide) (by decide) (y := (own_v0_22 q1)) rfl at_800 (pc' := 801) rfl ?_
        by_cases hc492 : (own_v4_36 (own_v2_15 (own_v0_14 q1) (own_v0_124 q1 q5 q6)) (own_v2_36 (own_v0_14 q1) (own_v0_22 q1) (own_v0_124 q1 q5 q6) (own_v0_144 q1 q5 q6)) (own_v0_124 q1 q5 q6) (own_v0_144 q1 q5 q6)) = (own_v0_22 q1)
        · refine own_ljN X481 at_801 rfl at_802 (own_teqL hc492).2 (pc' := 805) rfl ?_
          refine own_aload X481 at_805 (pc' := 807) rfl (v := (.ref b357)) rfl rfl ?_
          refine own_iconst X481 at_807 (pc' := 808) rfl (z := (2 : Int32)) rfl ?_
          refine own_laload X481 V484 (by decide) (by decide) (y := (own_v4_57 (own_v2_15 (own_v0_14 q1) (own_v0_124 q1 q5 q6)) (own_v2_36 (own_v0_14 q1) (own_v0_22 q1) (own_v0_124 q1 q5 q6) (own_v0_144 q1 q5 q6)) (own_v2_57 (own_v0_14 q1) (own_v0_22 q1) (own_v0_31 q2) (own_v0_124 q1 q5 q6) (own_v0_144 q1 q5 q6) (own_v0_164 q2 q5 q6)) (own_v0_124 q1 q5 q6) (own_v0_144 q1 q5 q6) (own_v0_164 q2 q5 q6))) rfl at_808 (pc' := 809) rfl ?_
          refine own_aload X481 at_809 (pc' := 811) rfl (v := (.ref b179)) rfl rfl ?_
          refine own_iconst X481 at_811 (pc' := 812) rfl (z := (2 : Int32)) rfl ?_
          refine own_laload X481 V487 (by decide) (by decide) (y := (own_v0_31 q2)) rfl at_812 (pc' := 813) rfl ?_
          by_cases hc493 : (own_v4_57 (own_v2_15 (own_v0_14 q1) (own_v0_124 q1 q5 q6)) (own_v2_36 (own_v0_14 q1) (own_v0_22 q1) (own_v0_124 q1 q5 q6) (own_v0_144 q1 q5 q6)) (own_v2_57 (own_v0_14 q1) (own_v0_22 q1) (own_v0_31 q2) (own_v0_124 q1 q5 q6) (own_v0_144 q1 q5 q6) (own_v0_164 q2 q5 q6)) (own_v0_124 q1 q5 q6) (own_v0_144 q1 q5 q6) (own_v0_164 q2 q5 q6)) = (own_v0_31 q2)
          · refine own_ljN X481 at_813 rfl at_814 (own_teqL hc493).2 (pc' := 817) rfl ?_
            refine own_aload X481 at_817 (pc' := 819) rfl (v := (.ref b357)) rfl rfl ?_
            refine own_iconst X481 at_819 (pc' := 820) rfl (z := (3 : Int32)) rfl ?_
            refine own_laload X481 V484 (by decide) (by decide) (y := (own_v4_78 (own_v2_15 (own_v0_14 q1) (own_v0_124 q1 q5 q6)) (own_v2_36 (own_v0_14 q1) (own_v0_22 q1) (own_v0_124 q1 q5 q6) (own_v0_144 q1 q5 q6)) (own_v2_57 (own_v0_14 q1) (own_v0_22 q1) (own_v0_31 q2) (own_v0_124 q1 q5 q6) (own_v0_144 q1 q5 q6) (own_v0_164 q2 q5 q6)) (own_v2_78 (own_v0_14 q1) (own_v0_22 q1) (own_v0_31 q2) (own_v0_39 q2) (own_v0_124 q1 q5 q6) (own_v0_144 q1 q5 q6) (own_v0_164 q2 q5 q6) (own_v0_184 q2 q5 q6)) (own_v0_124 q1 q5 q6) (own_v0_144 q1 q5 q6) (own_v0_164 q2 q5 q6) (own_v0_184 q2 q5 q6))) rfl at_820 (pc' := 821) rfl ?_
            refine own_aload X481 at_821 (pc' := 823) rfl (v := (.ref b179)) rfl rfl ?_
            refine own_iconst X481 at_823 (pc' := 824) rfl (z := (3 : Int32)) rfl ?_
            refine own_laload X481 V487 (by decide) (by decide) (y := (own_v0_39 q2)) rfl at_824 (pc' := 825) rfl ?_
            by_cases hc494 : (own_v4_78 (own_v2_15 (own_v0_14 q1) (own_v0_124 q1 q5 q6)) (own_v2_36 (own_v0_14 q1) (own_v0_22 q1) (own_v0_124 q1 q5 q6) (own_v0_144 q1 q5 q6)) (own_v2_57 (own_v0_14 q1) (own_v0_22 q1) (own_v0_31 q2) (own_v0_124 q1 q5 q6) (own_v0_144 q1 q5 q6) (own_v0_164 q2 q5 q6)) (own_v2_78 (own_v0_14 q1) (own_v0_22 q1) (own_v0_31 q2) (own_v0_39 q2) (own_v0_124 q1 q5 q6) (own_v0_144 q1 q5 q6) (own_v0_164 q2 q5 q6) (own_v0_184 q2 q5 q6)) (own_v0_124 q1 q5 q6) (own_v0_144 q1 q5 q6) (own_v0_164 q2 q5 q6) (own_v0_184 q2 q5 q6)) = (own_v0_39 q2)
            · refine own_ljN X481 at_825 rfl at_826 (own_teqL hc494).2 (pc' := 829) rfl ?_
              refine own_aload X481 at_829 (pc' := 831) rfl (v := (.ref b357)) rfl rfl ?_
              refine own_iconst X481 at_831 (pc' := 832) rfl (z := (4 : Int32)) rfl ?_
              refine own_laload X481 V484 (by decide) (by decide) (y := (own_v4_99 (own_v2_15 (own_v0_14 q1) (own_v0_124 q1 q5 q6)) (own_v2_36 (own_v0_14 q1) (own_v0_22 q1) (own_v0_124 q1 q5 q6) (own_v0_144 q1 q5 q6)) (own_v2_57 (own_v0_14 q1) (own_v0_22 q1) (own_v0_31 q2) (own_v0_124 q1 q5 q6) (own_v0_144 q1 q5 q6) (own_v0_164 q2 q5 q6)) (own_v2_78 (own_v0_14 q1) (own_v0_22 q1) (own_v0_31 q2) (own_v0_39 q2) (own_v0_124 q1 q5 q6) (own_v0_144 q1 q5 q6) (own_v0_164 q2 q5 q6) (own_v0_184 q2 q5 q6)) (own_v2_99 (own_v0_14 q1) (own_v0_22 q1) (own_v0_31 q2) (own_v0_39 q2) (own_v0_49 q3) (own_v0_124 q1 q5 q6) (own_v0_144 q1 q5 q6) (own_v0_164 q2 q5 q6) (own_v0_184 q2 q5 q6) (own_v0_204 q3 q5 q6)) (own_v0_124 q1 q5 q6) (own_v0_144 q1 q5 q6) (own_v0_164 q2 q5 q6) (own_v0_184 q2 q5 q6) (own_v0_204 q3 q5 q6))) rfl at_832 (pc' := 833) rfl ?_
              refine own_aload X481 at_833 (pc' := 835) rfl (v := (.ref b179)) rfl rfl ?_
              refine own_iconst X481 at_835 (pc' := 836) rfl (z := (4 : Int32)) rfl ?_
              refine own_laload X481 V487 (by decide) (by decide) (y := (own_v0_49 q3)) rfl at_836 (pc' := 837) rfl ?_
              by_cases hc495 : (own_v4_99 (own_v2_15 (own_v0_14 q1) (own_v0_124 q1 q5 q6)) (own_v2_36 (own_v0_14 q1) (own_v0_22 q1) (own_v0_124 q1 q5 q6) (own_v0_144 q1 q5 q6)) (own_v2_57 (own_v0_14 q1) (own_v0_22 q1) (own_v0_31 q2) (own_v0_124 q1 q5 q6) (own_v0_144 q1 q5 q6) (own_v0_164 q2 q5 q6)) (own_v2_78 (own_v0_14 q1) (own_v0_22 q1) (own_v0_31 q2) (own_v0_39 q2) (own_v0_124 q1 q5 q6) (own_v0_144 q1 q5 q6) (own_v0_164 q2 q5 q6) (own_v0_184 q2 q5 q6)) (own_v2_99 (own_v0_14 q1) (own_v0_22 q1) (own_v0_31 q2) (own_v0_39 q2) (own_v0_49 q3) (own_v0_124 q1 q5 q6) (own_v0_144 q1 q5 q6) (own_v0_164 q2 q5 q6) (own_v0_184 q2 q5 q6) (own_v0_204 q3 q5 q6)) (own_v0_124 q1 q5 q6) (own_v0_144 q1 q5 q6) (own_v0_164 q2 q5 q6) (own_v0_184 q2 q5 q6) (own_v0_204 q3 q5 q6)) = (own_v0_49 q3)
              · refine own_ljN X481 at_837 rfl at_838 (own_teqL hc495).2 (pc' := 841) rfl ?_
                refine own_aload X481 at_841 (pc' := 843) rfl (v := (.ref b357)) rfl rfl ?_
                refine own_iconst X481 at_843 (pc' := 844) rfl (z := (5 : Int32)) rfl ?_
                refine own_laload X481 V484 (by decide) (by decide) (y := (own_v4_120 (own_v2_15 (own_v0_14 q1) (own_v0_124 q1 q5 q6)) (own_v2_36 (own_v0_14 q1) (own_v0_22 q1) (own_v0_124 q1 q5 q6) (own_v0_144 q1 q5 q6)) (own_v2_57 (own_v0_14 q1) (own_v0_22 q1) (own_v0_31 q2) (own_v0_124 q1 q5 q6) (own_v0_144 q1 q5 q6) (own_v0_164 q2 q5 q6)) (own_v2_78 (own_v0_14 q1) (own_v0_22 q1) (own_v0_31 q2) (own_v0_39 q2) (own_v0_124 q1 q5 q6) (own_v0_144 q1 q5 q6) (own_v0_164 q2 q5 q6) (own_v0_184 q2 q5 q6)) (own_v2_99 (own_v0_14 q1) (own_v0_22 q1) (own_v0_31 q2) (own_v0_39 q2) (own_v0_49 q3) (own_v0_124 q1 q5 q6) (own_v0_144 q1 q5 q6) (own_v0_164 q2 q5 q6) (own_v0_184 q2 q5 q6) (own_v0_204 q3 q5 q6)) (own_v2_120 (own_v0_14 q1) (own_v0_22 q1) (own_v0_31 q2) (own_v0_39 q2) (own_v0_49 q3) (own_v0_58 q3) (own_v0_124 q1 q5 q6) (own_v0_144 q1 q5 q6) (own_v0_164 q2 q5 q6) (own_v0_184 q2 q5 q6) (own_v0_204 q3 q5 q6) (own_v0_224 q3 q5 q6)) (own_v0_124 q1 q5 q6) (own_v0_144 q1 q5 q6) (own_v0_164 q2 q5 q6) (own_v0_184 q2 q5 q6) (own_v0_204 q3 q5 q6) (own_v0_224 q3 q5 q6))) rfl at_844 (pc' := 845) rfl ?_
                refine own_aload X481 at_845 (pc' := 847) rfl (v := (.ref b179)) rfl rfl ?_
                refine own_iconst X481 at_847 (pc' := 848) rfl (z := (5 : Int32)) rfl ?_
                refine own_laload X481 V487 (by decide) (by decide) (y := (own_v0_58 q3)) rfl at_848 (pc' := 849) rfl ?_
                by_cases hc496 : (own_v4_120 (own_v2_15 (own_v0_14 q1) (own_v0_124 q1 q5 q6)) (own_v2_36 (own_v0_14 q1) (own_v0_22 q1) (own_v0_124 q1 q5 q6) (own_v0_144 q1 q5 q6)) (own_v2_57 (own_v0_14 q1) (own_v0_22 q1) (own_v0_31 q2) (own_v0_124 q1 q5 q6) (own_v0_144 q1 q5 q6) (own_v0_164 q2 q5 q6)) (own_v2_78 (own_v0_14 q1) (own_v0_22 q1) (own_v0_31 q2) (own_v0_39 q2) (own_v0_124 q1 q5 q6) (own_v0_144 q1 q5 q6) (own_v0_164 q2 q5 q6) (own_v0_184 q2 q5 q6)) (own_v2_99 (own_v0_14 q1) (own_v0_22 q1) (own_v0_31 q2) (own_v0_39 q2) (own_v0_49 q3) (own_v0_124 q1 q5 q6) (own_v0_144 q1 q5 q6) (own_v0_164 q2 q5 q6) (own_v0_184 q2 q5 q6) (own_v0_204 q3 q5 q6)) (own_v2_120 (own_v0_14 q1) (own_v0_22 q1) (own_v0_31 q2) (own_v0_39 q2) (own_v0_49 q3) (own_v0_58 q3) (own_v0_124 q1 q5 q6) (own_v0_144 q1 q5 q6) (own_v0_164 q2 q5 q6) (own_v0_184 q2 q5 q6) (own_v0_204 q3 q5 q6) (own_v0_224 q3 q5 q6)) (own_v0_124 q1 q5 q6) (own_v0_144 q1 q5 q6) (own_v0_164 q2 q5 q6) (own_v0_184 q2 q5 q6) (own_v0_204 q3 q5 q6) (own_v0_224 q3 q5 q6)) = (own_v0_58 q3)
                · refine own_ljN X481 at_849 rfl at_850 (own_teqL hc496).2 (pc' := 853) rfl ?_
                  refine own_aload X481 at_853 (pc' := 855) rfl (v := (.ref b357)) rfl rfl ?_
                  refine own_bipush X481 at_855 (pc' := 857) rfl (z := (6 : Int32)) rfl ?_
                  refine own_laload X481 V484 (by decide) (by decide) (y := (own_v4_144 (own_v2_15 (own_v0_14 q1) (own_v0_124 q1 q5 q6)) (own_v2_36 (own_v0_14 q1) (own_v0_22 q1) (own_v0_124 q1 q5 q6) (own_v0_144 q1 q5 q6)) (own_v2_57 (own_v0_14 q1) (own_v0_22 q1) (own_v0_31 q2) (own_v0_124 q1 q5 q6) (own_v0_144 q1 q5 q6) (own_v0_164 q2 q5 q6)) (own_v2_78 (own_v0_14 q1) (own_v0_22 q1) (own_v0_31 q2) (own_v0_39 q2) (own_v0_124 q1 q5 q6) (own_v0_144 q1 q5 q6) (own_v0_164 q2 q5 q6) (own_v0_184 q2 q5 q6)) (own_v2_99 (own_v0_14 q1) (own_v0_22 q1) (own_v0_31 q2) (own_v0_39 q2) (own_v0_49 q3) (own_v0_124 q1 q5 q6) (own_v0_144 q1 q5 q6) (own_v0_164 q2 q5 q6) (own_v0_184 q2 q5 q6) (own_v0_204 q3 q5 q6)) (own_v2_120 (own_v0_14 q1) (own_v0_22 q1) (own_v0_31 q2) (own_v0_39 q2) (own_v0_49 q3) (own_v0_58 q3) (own_v0_124 q1 q5 q6) (own_v0_144 q1 q5 q6) (own_v0_164 q2 q5 q6) (own_v0_184 q2 q5 q6) (own_v0_204 q3 q5 q6) (own_v0_224 q3 q5 q6)) (own_v2_144 (own_v0_14 q1) (own_v0_22 q1) (own_v0_31 q2) (own_v0_39 q2) (own_v0_49 q3) (own_v0_58 q3) (own_v0_69 q4) (own_v0_124 q1 q5 q6) (own_v0_144 q1 q5 q6) (own_v0_164 q2 q5 q6) (own_v0_184 q2 q5 q6) (own_v0_204 q3 q5 q6) (own_v0_224 q3 q5 q6) (own_v0_247 q4 q5 q6)) (own_v0_124 q1 q5 q6) (own_v0_144 q1 q5 q6) (own_v0_164 q2 q5 q6) (own_v0_184 q2 q5 q6) (own_v0_204 q3 q5 q6) (own_v0_224 q3 q5 q6) (own_v0_247 q4 q5 q6))) rfl at_857 (pc' := 858) rfl ?_
                  refine own_aload X481 at_858 (pc' := 860) rfl (v := (.ref b179)) rfl rfl ?_
                  refine own_bipush X481 at_860 (pc' := 862) rfl (z := (6 : Int32)) rfl ?_
                  refine own_laload X481 V487 (by decide) (by decide) (y := (own_v0_69 q4)) rfl at_862 (pc' := 863) rfl ?_
                  by_cases hc497 : (own_v4_144 (own_v2_15 (own_v0_14 q1) (own_v0_124 q1 q5 q6)) (own_v2_36 (own_v0_14 q1) (own_v0_22 q1) (own_v0_124 q1 q5 q6) (own_v0_144 q1 q5 q6)) (own_v2_57 (own_v0_14 q1) (own_v0_22 q1) (own_v0_31 q2) (own_v0_124 q1 q5 q6) (own_v0_144 q1 q5 q6) (own_v0_164 q2 q5 q6)) (own_v2_78 (own_v0_14 q1) (own_v0_22 q1) (own_v0_31 q2) (own_v0_39 q2) (own_v0_124 q1 q5 q6) (own_v0_144 q1 q5 q6) (own_v0_164 q2 q5 q6) (own_v0_184 q2 q5 q6)) (own_v2_99 (own_v0_14 q1) (own_v0_22 q1) (own_v0_31 q2) (own_v0_39 q2) (own_v0_49 q3) (own_v0_124 q1 q5 q6) (own_v0_144 q1 q5 q6) (own_v0_164 q2 q5 q6) (own_v0_184 q2 q5 q6) (own_v0_204 q3 q5 q6)) (own_v2_120 (own_v0_14 q1) (own_v0_22 q1) (own_v0_31 q2) (own_v0_39 q2) (own_v0_49 q3) (own_v0_58 q3) (own_v0_124 q1 q5 q6) (own_v0_144 q1 q5 q6) (own_v0_164 q2 q5 q6) (own_v0_184 q2 q5 q6) (own_v0_204 q3 q5 q6) (own_v0_224 q3 q5 q6)) (own_v2_144 (own_v0_14 q1) (own_v0_22 q1) (own_v0_31 q2) (own_v0_39 q2) (own_v0_49 q3) (own_v0_58 q3) (own_v0_69 q4) (own_v0_124 q1 q5 q6) (own_v0_144 q1 q5 q6) (own_v0_164 q2 q5 q6) (own_v0_184 q2 q5 q6) (own_v0_204 q3 q5 q6) (own_v0_224 q3 q5 q6) (own_v0_247 q4 q5 q6)) (own_v0_124 q1 q5 q6) (own_v0_144 q1 q5 q6) (own_v0_164 q2 q5 q6) (own_v0_184 q2 q5 q6) (own_v0_204 q3 q5 q6) (own_v0_224 q3 q5 q6) (own_v0_247 q4 q5 q6)) = (own_v0_69 q4)
                  · refine own_ljN X481 at_863 rfl at_864 (own_teqL hc497).2 (pc' := 867) rfl ?_
                    refine own_aload X481 at_867 (pc' := 869) rfl (v := (.ref b357)) rfl rfl ?_
                    refine own_bipush X481 at_869 (pc' := 871) rfl (z := (7 : Int32)) rfl ?_
                    refine own_laload X481 V484 (by decide) (by decide) (y := (own_v4_168 (own_v2_15 (own_v0_14 q1) (own_v0_124 q1 q5 q6)) (own_v2_36 (own_v0_14 q1) (own_v0_22 q1) (own_v0_124 q1 q5 q6) (own_v0_144 q1 q5 q6)) (own_v2_57 (own_v0_14 q1) (own_v0_22 q1) (own_v0_31 q2) (own_v0_124 q1 q5 q6) (own_v0_144 q1 q5 q6) (own_v0_164 q2 q5 q6)) (own_v2_78 (own_v0_14 q1) (own_v0_22 q1) (own_v0_31 q2) (own_v0_39 q2) (own_v0_124 q1 q5 q6) (own_v0_144 q1 q5 q6) (own_v0_164 q2 q5 q6) (own_v0_184 q2 q5 q6)) (own_v2_99 (own_v0_14 q1) (own_v0_22 q1) (own_v0_31 q2) (own_v0_39 q2) (own_v0_49 q3) (own_v0_124 q1 q5 q6) (own_v0_144 q1 q5 q6) (own_v0_164 q2 q5 q6) (own_v0_184 q2 q5 q6) (own_v0_204 q3 q5 q6)) (own_v2_120 (own_v0_14 q1) (own_v0_22 q1) (own_v0_31 q2) (own_v0_39 q2) (own_v0_49 q3) (own_v0_58 q3) (own_v0_124 q1 q5 q6) (own_v0_144 q1 q5 q6) (own_v0_164 q2 q5 q6) (own_v0_184 q2 q5 q6) (own_v0_204 q3 q5 q6) (own_v0_224 q3 q5 q6)) (own_v2_144 (own_v0_14 q1) (own_v0_22 q1) (own_v0_31 q2) (own_v0_39 q2) (own_v0_49 q3) (own_v0_58 q3) (own_v0_69 q4) (own_v0_124 q1 q5 q6) (own_v0_144 q1 q5 q6) (own_v0_164 q2 q5 q6) (own_v0_184 q2 q5 q6) (own_v0_204 q3 q5 q6) (own_v0_224 q3 q5 q6) (own_v0_247 q4 q5 q6)) (own_v2_168 (own_v0_14 q1) (own_v0_22 q1) (own_v0_31 q2) (own_v0_39 q2) (own_v0_49 q3) (own_v0_58 q3) (own_v0_69 q4) (own_v0_79 q4) (own_v0_124 q1 q5 q6) (own_v0_144 q1 q5 q6) (own_v0_164 q2 q5 q6) (own_v0_184 q2 q5 q6) (own_v0_204 q3 q5 q6) (own_v0_224 q3 q5 q6) (own_v0_247 q4 q5 q6) (own_v0_270 q4 q5 q6)) (own_v0_124 q1 q5 q6) (own_v0_144 q1 q5 q6) (own_v0_164 q2 q5 q6) (own_v0_184 q2 q5 q6) (own_v0_204 q3 q5 q6) (own_v0_224 q3 q5 q6) (own_v0_247 q4 q5 q6) (own_v0_270 q4 q5 q6))) rfl at_871 (pc' := 872) rfl ?_
                    refine own_aload X481 at_872 (pc' := 874) rfl (v := (.ref b179)) rfl rfl ?_
                    refine own_bipush X481 at_874 (pc' := 876) rfl (z := (7 : Int32)) rfl ?_
                    refine own_laload X481 V487 (by decide) (by decide) (y := (own_v0_79 q4)) rfl at_876 (pc' := 877) rfl ?_
                    by_cases hc498 : (own_v4_168 (own_v2_15 (own_v0_14 q1) (own_v0_124 q1 q5 q6)) (own_v2_36 (own_v0_14 q1) (own_v0_22 q1) (own_v0_124 q1 q5 q6) (own_v0_144 q1 q5 q6)) (own_v2_57 (own_v0_14 q1) (own_v0_22 q1) (own_v0_31 q2) (own_v0_124 q1 q5 q6) (own_v0_144 q1 q5 q6) (own_v0_164 q2 q5 q6)) (own_v2_78 (own_v0_14 q1) (own_v0_22 q1) (own_v0_31 q2) (own_v0_39 q2) (own_v0_124 q1 q5 q6) (own_v0_144 q1 q5 q6) (own_v0_164 q2 q5 q6) (own_v0_184 q2 q5 q6)) (own_v2_99 (own_v0_14 q1) (own_v0_22 q1) (own_v0_31 q2) (own_v0_39 q2) (own_v0_49 q3) (own_v0_124 q1 q5 q6) (own_v0_144 q1 q5 q6) (own_v0_164 q2 q5 q6) (own_v0_184 q2 q5 q6) (own_v0_204 q3 q5 q6)) (own_v2_120 (own_v0_14 q1) (own_v0_22 q1) (own_v0_31 q2) (own_v0_39 q2) (own_v0_49 q3) (own_v0_58 q3) (own_v0_124 q1 q5 q6) (own_v0_144 q1 q5 q6) (own_v0_164 q2 q5 q6) (own_v0_184 q2 q5 q6) (own_v0_204 q3 q5 q6) (own_v0_224 q3 q5 q6)) (own_v2_144 (own_v0_14 q1) (own_v0_22 q1) (own_v0_31 q2) (own_v0_39 q2) (own_v0_49 q3) (own_v0_58 q3) (own_v0_69 q4) (own_v0_124 q1 q5 q6) (own_v0_144 q1 q5 q6) (own_v0_164 q2 q5 q6) (own_v0_184 q2 q5 q6) (own_v0_204 q3 q5 q6) (own_v0_224 q3 q5 q6) (own_v0_247 q4 q5 q6)) (own_v2_168 (own_v0_14 q1) (own_v0_22 q1) (own_v0_31 q2) (own_v0_39 q2) (own_v0_49 q3) (own_v0_58 q3) (own_v0_69 q4) (own_v0_79 q4) (own_v0_124 q1 q5 q6) (own_v0_144 q1 q5 q6) (own_v0_164 q2 q5 q6) (own_v0_184 q2 q5 q6) (own_v0_204 q3 q5 q6) (own_v0_224 q3 q5 q6) (own_v0_247 q4 q5 q6) (own_v0_270 q4 q5 q6)) (own_v0_124 q1 q5 q6) (own_v0_144 q1 q5 q6) (own_v0_164 q2 q5 q6) (own_v0_184 q2 q5 q6) (own_v0_204 q3 q5 q6) (own_v0_224 q3 q5 q6) (own_v0_247 q4 q5 q6) (own_v0_270 q4 q5 q6)) = (own_v0_79 q4)
                    · refine own_ljN X481 at_877 rfl at_878 (own_teqL hc498).2 (pc' := 881) rfl ?_
                      refine own_iconst X481 at_881 (pc' := 882) rfl (z := (1 : Int32)) rfl ?_
                      refine own_goto X481 at_882 (by decide) (pc' := 886) rfl ?_
                      refine own_iret X481 (t := .boolean) (w := (1 : Int32)) hret (by simp) at_886 rfl (by decide) (by decide) ?_
                      exact congrArg (fun t => some (Value.int t)) (show (1 : Int32) = own_F0 q1 q2 q3 q4 q5 q6 from (by rw [own_F0, if_pos hc490, if_pos hc491, if_pos hc492, if_pos hc493, if_pos hc494, if_pos hc495, if_pos hc496, if_pos hc497, if_pos hc498]))
                    · refine own_ljY X481 at_877 rfl at_878 (own_feqL hc498).2 (by decide) (pc' := 885) rfl ?_
                      refine own_iconst X481 at_885 (pc' := 886) rfl (z := (0 : Int32)) rfl ?_
                      refine own_iret X481 (t := .boolean) (w := (0 : Int32)) hret (by simp) at_886 rfl (by decide) (by decide) ?_
                      exact congrArg (fun t => some (Value.int t)) (show (0 : Int32) = own_F0 q1 q2 q3 q4 q5 q6 from (by rw [own_F0, if_pos hc490, if_pos hc491, if_pos hc492, if_pos hc493, if_pos hc494, if_pos hc495, if_pos hc496, if_pos hc497, if_neg hc498]))
                  · refine own_ljY X481 at_863 rfl at_864 (own_feqL hc497).2 (by decide) (pc' := 885) rfl ?_
                    refine own_iconst X481 at_885 (pc' := 886) rfl (z := (0 : Int32)) rfl ?_
                    refine own_iret X481 (t := .boolean) (w := (0 : Int32)) hret (by simp) at_886 rfl (by decide) (by decide) ?_
                    exact congrArg (fun t => some (Value.int t)) (show (0 : Int32) = own_F0 q1 q2 q3 q4 q5 q6 from (by rw [own_F0, if_pos hc490, if_pos hc491, if_pos hc492, if_pos hc493, if_pos hc494, if_pos hc495, if_pos hc496, if_neg hc497]))
                · refine own_ljY X481 at_849 rfl at_850 (own_feqL hc496).2 (by decide) (pc' := 885) rfl ?_
                  refine own_iconst X481 at_885 (pc' := 886) rfl (z := (0 : Int32)) rfl ?_
                  refine own_iret X481 (t := .boolean) (w := (0 : Int32)) hret (by simp) at_886 rfl (by decide) (by decide) ?_
                  exact congrArg (fun t => some (Value.int t)) (show (0 : Int32) = own_F0 q1 q2 q3 q4 q5 q6 from (by rw [own_F0, if_pos hc490, if_pos hc491, if_pos hc492, if_pos hc493, if_pos hc494, if_pos hc495, if_neg hc496]))
              · refine own_ljY X481 at_837 rfl at_838 (own_feqL hc495).2 (by decide) (pc' := 885) rfl ?_
                refine own_iconst X481 at_885 (pc' := 886) rfl (z := (0 : Int32)) rfl ?_
                refine own_iret X481 (t := .boolean) (w := (0 : Int32)) hret (by simp) at_886 rfl (by decide) (by decide) ?_
                exact congrArg (fun t => some (Value.int t)) (show (0 : Int32) = own_F0 q1 q2 q3 q4 q5 q6 from (by rw [own_F0, if_pos hc490, if_pos hc491, if_pos hc492, if_pos hc493, if_pos hc494, if_neg hc495]))
            · refine own_ljY X481 at_825 rfl at_826 (own_feqL hc494).2 (by decide) (pc' := 885) rfl ?_
              refine own_iconst X481 at_885 (pc' := 886) rfl (z := (0 : Int32)) rfl ?_
              refine own_iret X481 (t := .boolean) (w := (0 : Int32)) hret (by simp) at_886 rfl (by decide) (by decide) ?_
              exact congrArg (fun t => some (Value.int t)) (show (0 : Int32) = own_F0 q1 q2 q3 q4 q5 q6 from (by rw [own_F0, if_pos hc490, if_pos hc491, if_pos hc492, if_pos hc493, if_neg hc494]))
          · refine own_ljY X481 at_813 rfl at_814 (own_feqL hc493).2 (by decide) (pc' := 885) rfl ?_
            refine own_iconst X481 at_885 (pc' := 886) rfl (z := (0 : Int32)) rfl ?_
            refine own_iret X481 (t := .boolean) (w := (0 : Int32)) hret (by simp) at_886 rfl (by decide) (by decide) ?_
            exact congrArg (fun t => some (Value.int t)) (show (0 : Int32) = own_F0 q1 q2 q3 q4 q5 q6 from (by rw [own_F0, if_pos hc490, if_pos hc491, if_pos hc492, if_neg hc493]))
        · refine own_ljY X481 at_801 rfl at_802 (own_feqL hc492).2 (by decide) (pc' := 885) rfl ?_
          refine own_iconst X481 at_885 (pc' := 886) rfl (z := (0 : Int32)) rfl ?_
          refine own_iret X481 (t := .boolean) (w := (0 : Int32)) hret (by simp) at_886 rfl (by decide) (by decide) ?_
          exact congrArg (fun t => some (Value.int t)) (show (0 : Int32) = own_F0 q1 q2 q3 q4 q5 q6 from (by rw [own_F0, if_pos hc490, if_pos hc491, if_neg hc492]))
      · refine own_ljY X481 at_789 rfl at_790 (own_feqL hc491).2 (by decide) (pc' := 885) rfl ?_
        refine own_iconst X481 at_885 (pc' := 886) rfl (z := (0 : Int32)) rfl ?_
        refine own_iret X481 (t := .boolean) (w := (0 : Int32)) hret (by simp) at_886 rfl (by decide) (by decide) ?_
        exact congrArg (fun t => some (Value.int t)) (show (0 : Int32) = own_F0 q1 q2 q3 q4 q5 q6 from (by rw [own_F0, if_pos hc490, if_neg hc491]))
    · refine own_ljY X481 at_777 rfl at_778 (own_feqL hc490).2 (by decide) (pc' := 885) rfl ?_
      refine own_iconst X481 at_885 (pc' := 886) rfl (z := (0 : Int32)) rfl ?_
      refine own_iret X481 (t := .boolean) (w := (0 : Int32)) hret (by simp) at_886 rfl (by decide) (by decide) ?_
      exact congrArg (fun t => some (Value.int t)) (show (0 : Int32) = own_F0 q1 q2 q3 q4 q5 q6 from (by rw [own_F0, if_neg hc490]))
  by_cases hc388 : (own_v0_440 q1 q2 q3 q4 q5 q6) = (0 : Int64)
  · refine own_ljY X379 at_448 rfl at_449 (own_teqL hc388).1 (by decide) (pc' := 463) rfl ?_
    have K392_ := K392 T375 _ X379
    exact K392_
  · refine own_ljN X379 at_448 rfl at_449 (own_feqL hc388).1 (pc' := 452) rfl ?_
    refine own_lload X379 at_452 (pc' := 454) rfl (v := (own_v0_440 q1 q2 q3 q4 q5 q6)) rfl ?_
    refine own_ldc2 X379 (hw _ (List.mem_of_getElem? (i := 12) rfl)) at_454 (pc' := 457) rfl ?_
    have hk390 : (own_v0_440 q1 q2 q3 q4 q5 q6) = (-1 : Int64) := own_bor q1 q2 q3 q4 q5 q6 hc388
    refine own_ljY X379 at_457 rfl at_458 (own_teqL hk390).1 (by decide) (pc' := 463) rfl ?_
    have K392_ := K392 T375 _ X379
    exact K392_
theorem own_plain (q1 q2 q3 q4 q5 q6 : Int64) : own_F0 q1 q2 q3 q4 q5 q6 = 1 := by
  obtain ⟨K, l, k, c, e0, e1, e2, e3, e4, e5, e6, e7⟩ := own_all8 (x0 := own_v0_14 q1) (x1 := own_v0_22 q1) (x2 := own_v0_31 q2) (x3 := own_v0_39 q2) (x4 := own_v0_49 q3) (x5 := own_v0_58 q3) (x6 := own_v0_69 q4) (x7 := own_v0_79 q4) (y0 := own_v0_124 q1 q5 q6) (y1 := own_v0_144 q1 q5 q6) (y2 := own_v0_164 q2 q5 q6) (y3 := own_v0_184 q2 q5 q6) (y4 := own_v0_204 q3 q5 q6) (y5 := own_v0_224 q3 q5 q6) (y6 := own_v0_247 q4 q5 q6) (y7 := own_v0_270 q4 q5 q6) (own_inLo q1) (own_inHi q1) (own_inLo q2) (own_inHi q2) (own_inLo q3) (own_inHi q3) (own_inLo q4) (own_inHi q4) (own_pk (own_inLo q1) (own_inLo q5) (own_inHi q5) (own_inHi q6)) (own_pk (own_inHi q1) (own_inLo q5) (own_inHi q5) (own_inHi q6)) (own_pk (own_inLo q2) (own_inLo q5) (own_inHi q5) (own_inHi q6)) (own_pk (own_inHi q2) (own_inLo q5) (own_inHi q5) (own_inHi q6)) (own_pk (own_inLo q3) (own_inLo q5) (own_inHi q5) (own_inHi q6)) (own_pk (own_inHi q3) (own_inLo q5) (own_inHi q5) (own_inHi q6)) (own_pk (own_inLo q4) (own_inLo q5) (own_inHi q5) (own_inHi q6)) (own_pk (own_inHi q4) (own_inLo q5) (own_inHi q5) (own_inHi q6))
  have k' : (own_v0_440 q1 q2 q3 q4 q5 q6).toInt = K := k
  have c' : (own_v0_767 q1 q2 q3 q4 q5 q6).toInt = -K := c
  have hc : own_v0_767 q1 q2 q3 q4 q5 q6 = -(own_v0_440 q1 q2 q3 q4 q5 q6) := by
    rw [own_eqL, c', Int64.toInt_neg, k']; exact (Int.bmod_eq_of_le_mul_two (by omega) (by omega)).symm
  rw [own_F0]
  exact own_yes hc (own_yes e0 (own_yes e1 (own_yes e2 (own_yes e3 (own_yes e4 (own_yes e5 (own_yes e6 (own_yes e7 rfl))))))))
set_option maxRecDepth 65536 in
set_option maxHeartbeats 40000000 in
theorem own_comes {Post : Tables → Env → Array Value → State → Outcome → State → Prop} (hpost : ∀ tb e args s v u, (limb_1_1.after args s (.returned v) u = true ∧ limb_1_2.after args s (.returned v) u = true) → FrameEnd s (.returned v) u (Jvm.fieldLocs frame_1_writes args s ++ Jvm.arrayLocs frame_1_arrays args s ++ Jvm.staticLocs frame_1_statics s) 24 192 → Post tb e args s (.returned v) u) :
    ArmFor flags0 classFile x code maxLocals ret World_1 tables_1 room_1 Calls_1 rest_1 Pre_1 Post := by
  intro l hfl _ _ p e ha hc hk s m args below hf hA hF happ hP
  obtain ⟨hcalls, hrest, hpre⟩ := hP
  obtain ⟨-, -, -, hnamed, -, -, -, hat⟩ := (Spec.applies_iff hf).mp happ
  obtain ⟨hg, hn⟩ := and_e (Cond.before_iff.mp (show (Jvm.Cond.and given_1 narrow_1).before args s = true from hpre))
  obtain ⟨g1, g2⟩ := and_e hg
  obtain ⟨g3, g4⟩ := and_e g2
  obtain ⟨g5, g6⟩ := and_e g4
  obtain ⟨g7, g8⟩ := and_e g6
  obtain ⟨g9, g10⟩ := and_e g8
  obtain ⟨g11, g12⟩ := and_e g10
  obtain ⟨w0, w1, w2, w3, w4, w5, rfl⟩ : ∃ w0 w1 w2 w3 w4 w5 : Value, args = #[w0, w1, w2, w3, w4, w5] := by
    have hs : args.size = 6 := by simpa [Cond.value, given_1] using g1
    obtain ⟨L⟩ := args
    match L, hs with
    | [w0, w1, w2, w3, w4, w5], _ => exact ⟨w0, w1, w2, w3, w4, w5, rfl⟩
  have hw := fun d (hd : d ∈ tables_1) => atoms_spec (ws := Jvm.Cond.code x code maxLocals ret :: tables_1) hat d (List.mem_cons_of_mem _ hd)
  obtain ⟨i0, ei0⟩ := isL_v g3
  obtain rfl : w0 = (.long i0) := Option.some.inj ei0
  obtain ⟨i1, ei1⟩ := isL_v g5
  obtain rfl : w1 = (.long i1) := Option.some.inj ei1
  obtain ⟨i2, ei2⟩ := isL_v g7
  obtain rfl : w2 = (.long i2) := Option.some.inj ei2
  obtain ⟨i3, ei3⟩ := isL_v g9
  obtain rfl : w3 = (.long i3) := Option.some.inj ei3
  obtain ⟨i4, ei4⟩ := isL_v g11
  obtain rfl : w4 = (.long i4) := Option.some.inj ei4
  obtain ⟨i5, ei5⟩ := isL_v g12
  obtain rfl : w5 = (.long i5) := Option.some.inj ei5
  obtain ⟨n, o, h1, h2, h3, v, L, rfl, ⟨hq1, N, _⟩, hq⟩ := own_rm0 l s _ hw i0 i1 i2 i3 i4 i5 s.heap s.heap.size (Nat.le_refl _)  tables_1 p e ha hc hk s m _ below hf ((Spec.applies_iff_loose hf).mp happ).1 ⟨rfl, State.Warmed39.refl s, rfl⟩ trivial
  obtain rfl : v = some (.int 1) := by rw [hq1, own_plain i0 i1 i2 i3 i4 i5]
  exact ⟨n, _, h1, h2, h3, hpost _ _ _ _ _ _ ⟨Cond.after_iff.mpr rfl, Cond.after_iff.mpr (eq_i res_at (Term.int_eval (1)) rfl)⟩ ⟨hq.1, hq.2.1, (hq.2.2.sift fun y hy => Or.inr (N y hy)).mono (by decide) (by decide)⟩⟩
theorem main_1_1 : Claimed_1_1 := own_comes fun _ _ _ _ _ _ h hF => ⟨h.1, hF⟩
theorem main_1_2 : Claimed_1_2 := own_comes fun _ _ _ _ _ _ h hF => ⟨h.2, hF⟩
end Jvm.Pilot.@@N@@
namespace Jvm.Pilot.@@N@@
open Jvm Jvm.ClassFile Sem Op Lib Jvm.Free Jvm.Stand Jvm.Pilot.@@N@@.Jvm.D
/-! MADE BY PROGRAM (witnessworld.py) out of the Statement's table words and the real class files: 11 classes; the members and pool entries that the words name. The judged class is class 1, her method 3. -/
namespace start1
open Jvm.ClassFile
def u (s : String) : CpInfo := .utf8 (stringToUtf16 s)
/-- a pool by its gaps: so many unusable entries, then the entry; so many at the end -/
def gap : Nat → List CpInfo → List CpInfo
  | 0, r => r
  | n + 1, r => .unusable :: gap n r
def poolList (es : List (Nat × CpInfo)) (last : Nat) : List CpInfo := es.foldr (fun e r => gap e.1 (e.2 :: r)) (gap last [])
def pool (es : List (Nat × CpInfo)) (last : Nat) : Array CpInfo := ⟨poolList es last⟩
def fileOf (pool : Array CpInfo) (this : Nat) (attrs : Array Attribute := #[]) (ms : Array MethodInfo := #[]) (fl : Nat := 33) (sup : Nat := 0) (ifs : Array Nat := #[]) (fds : Array FieldInfo := #[]) : ClassFile where
  minorVersion := 0
  majorVersion := 65
  constantPool := pool
  accessFlags := fl
  thisClass := this
  superClass := sup
  interfaces := ifs
  fields := fds
  methods := ms
  attributes := attrs
def plain (name : String) (sup : Option ClassId) : Class where
  name := name
  kind := .ordinary
  loader := none
  accessFlags := 33
  super := sup
  interfaces := #[]
  cf := none
  fields := #[]
  methods := #[]
  instanceTypes := #[]
  staticTypes := #[]
  resolved := #[]
  callSites := []
  init := .initialized
  statics := none
  mirror := none

def pool0 : Array CpInfo := pool [(5, u "<init>"), (0, u "()V"), (1, .class_ 10), (1, u "java/lang/Object")] 113

def k0m0 : Method := { name := "<init>", desc := "()V", sig := { parameters := [], returnType := none }, accessFlags := 1, code := none }
/-- java/lang/Object -/
def k0 : Class := { plain "java/lang/Object" none with
  accessFlags := 33
  interfaces := #[]
  cf := some (fileOf pool0 8 #[] #[{ accessFlags := 1, nameIndex := 5, descriptorIndex := 6, attributes := #[] }] 33 0 #[] #[])
  fields := #[]
  methods := #[k0m0]
  instanceTypes := #[]
  staticTypes := #[]
  resolved := Array.replicate 124 none
  statics := none }

def pool1 : Array CpInfo := pool [(2, .class_ 4), (1, u "java/lang/Object"), (0, u "<init>"), (0, u "()V"), (0, .long 3), (1, .long 4294967295), (1, .methodref 12 13), (0, .class_ 14), (0, .nameAndType 15 16), (0, u "marketmint/Words256SubtractPinLaw"), (0, u "pick"), (0, u "(JIJJJJ)J"), (0, .methodref 18 19), (0, .class_ 20), (0, .nameAndType 21 22), (0, u "marketmint/Words256"), (0, u "subtract"), (0, u "([J[J[J)J"), (0, .long 18446744073709551615), (1, .methodref 12 26), (0, .nameAndType 27 28), (0, u "inWord"), (0, u "(J)Z"), (0, .methodref 18 30), (0, .nameAndType 31 22), (0, u "add"), (3, u "law"), (0, u "(JJJJJJ)Z")] 4

def k1m0 : Method := { name := "<init>", desc := "()V", sig := { parameters := [], returnType := none }, accessFlags := 1, code := none }
def k1c1 : Code := { maxStack := 4, maxLocals := 12, code := method_2_code, exceptionTable := #[], attributes := #[] }
def k1m1 : Method := { name := "pick", desc := "(JIJJJJ)J", sig := { parameters := [.long, .int, .long, .long, .long, .long], returnType := some .long }, accessFlags := 10, code := some k1c1 }
def k1c2 : Code := { maxStack := 4, maxLocals := 2, code := method_3_code, exceptionTable := #[], attributes := #[] }
def k1m2 : Method := { name := "inWord", desc := "(J)Z", sig := { parameters := [.long], returnType := some .boolean }, accessFlags := 10, code := some k1c2 }
def k1c3 : Code := { maxStack := 13, maxLocals := 29, code := code, exceptionTable := #[], attributes := #[] }
def k1m3 : Method := { name := "law", desc := "(JJJJJJ)Z", sig := { parameters := [.long, .long, .long, .long, .long, .long], returnType := some .boolean }, accessFlags := 9, code := some k1c3 }
/-- marketmint/Words256SubtractPinLaw -/
def k1 : Class := { plain "marketmint/Words256SubtractPinLaw" (some 0) with
  accessFlags := 49
  interfaces := #[]
  cf := some (fileOf pool1 12 #[] #[{ accessFlags := 1, nameIndex := 5, descriptorIndex := 6, attributes := #[] }, { accessFlags := 10, nameIndex := 15, descriptorIndex := 16, attributes := #[] }, { accessFlags := 10, nameIndex := 27, descriptorIndex := 28, attributes := #[] }, { accessFlags := 9, nameIndex := 35, descriptorIndex := 36, attributes := #[] }] 49 2 #[] #[])
  fields := #[]
  methods := #[k1m0, k1m1, k1m2, k1m3]
  instanceTypes := #[]
  staticTypes := #[]
  resolved := Array.replicate 41 none
  statics := none }

def pool2 : Array CpInfo := pool [(2, .class_ 4), (1, u "java/lang/Object"), (0, u "<init>"), (0, u "()V"), (0, .class_ 8), (0, u "marketmint/Words256"), (0, .long 4294967295), (13, u "ABOVE"), (0, u "Ljava/math/BigInteger;"), (28, u "WORDS"), (0, u "I"), (2, u "WORD"), (0, u "J"), (2, u "add"), (0, u "([J[J[J)J"), (0, u "subtract")] 16

def k2m0 : Method := { name := "<init>", desc := "()V", sig := { parameters := [], returnType := none }, accessFlags := 2, code := none }
def k2c1 : Code := { maxStack := 6, maxLocals := 5, code := prog_96_method_2_code, exceptionTable := #[], attributes := #[] }
def k2m1 : Method := { name := "add", desc := "([J[J[J)J", sig := { parameters := [(.array .long), (.array .long), (.array .long)], returnType := some .long }, accessFlags := 8, code := some k2c1 }
def k2c2 : Code := { maxStack := 6, maxLocals := 5, code := prog_96_method_3_code, exceptionTable := #[], attributes := #[] }
def k2m2 : Method := { name := "subtract", desc := "([J[J[J)J", sig := { parameters := [(.array .long), (.array .long), (.array .long)], returnType := some .long }, accessFlags := 8, code := some k2c2 }
/-- marketmint/Words256 -/
def k2 : Class := { plain "marketmint/Words256" (some 0) with
  accessFlags := 48
  interfaces := #[]
  cf := some (fileOf pool2 7 #[] #[{ accessFlags := 2, nameIndex := 5, descriptorIndex := 6, attributes := #[] }, { accessFlags := 8, nameIndex := 61, descriptorIndex := 62, attributes := #[] }, { accessFlags := 8, nameIndex := 63, descriptorIndex := 62, attributes := #[] }] 48 2 #[] #[{ accessFlags := 24, nameIndex := 53, descriptorIndex := 54, attributes := #[] }, { accessFlags := 24, nameIndex := 57, descriptorIndex := 58, attributes := #[] }, { accessFlags := 26, nameIndex := 23, descriptorIndex := 24, attributes := #[] }])
  fields := #[{ name := "WORDS", type := .int, accessFlags := 24, slot := 0, constantValue := 0 }, { name := "WORD", type := .long, accessFlags := 24, slot := 1, constantValue := 0 }, { name := "ABOVE", type := (.object "java/math/BigInteger"), accessFlags := 26, slot := 2, constantValue := 0 }]
  methods := #[k2m0, k2m1, k2m2]
  instanceTypes := #[]
  staticTypes := #[.int, .long, (.object "java/math/BigInteger")]
  resolved := Array.replicate 80 none
  statics := none }

def pool3 : Array CpInfo := pool [(1, u "java/lang/Cloneable"), (0, .class_ 1), (0, u "java/lang/Object"), (0, .class_ 3)] 3

/-- java/lang/Cloneable -/
def k3 : Class := { plain "java/lang/Cloneable" (some 0) with
  accessFlags := 1537
  interfaces := #[]
  cf := some (fileOf pool3 2 #[] #[] 1537 4 #[] #[])
  fields := #[]
  methods := #[]
  instanceTypes := #[]
  staticTypes := #[]
  resolved := Array.replicate 8 none
  statics := none }

def pool4 : Array CpInfo := pool [(1, u "java/io/Serializable"), (0, .class_ 1), (0, u "java/lang/Object"), (0, .class_ 3)] 3

/-- java/io/Serializable -/
def k4 : Class := { plain "java/io/Serializable" (some 0) with
  accessFlags := 1537
  interfaces := #[]
  cf := some (fileOf pool4 2 #[] #[] 1537 4 #[] #[])
  fields := #[]
  methods := #[]
  instanceTypes := #[]
  staticTypes := #[]
  resolved := Array.replicate 8 none
  statics := none }

/-- the primitive byte -/
def k5 : Class := { plain "byte" none with kind := .primitive 'B', accessFlags := 0x411 }
/-- [B -/
def k6 : Class := { plain "[B" (some 0) with kind := .array 5 .byte, interfaces := #[3, 4], accessFlags := 1041 }

/-- the primitive int -/
def k7 : Class := { plain "int" none with kind := .primitive 'I', accessFlags := 0x411 }
/-- [I -/
def k8 : Class := { plain "[I" (some 0) with kind := .array 7 .int, interfaces := #[3, 4], accessFlags := 1041 }

/-- the primitive long -/
def k9 : Class := { plain "long" none with kind := .primitive 'J', accessFlags := 0x411 }
/-- [J -/
def k10 : Class := { plain "[J" (some 0) with kind := .array 9 .long, interfaces := #[3, 4], accessFlags := 1041 }

def heap : Heap := #[]
def classes : Array Class := #[k0, k1, k2, k3, k4, k5, k6, k7, k8, k9, k10]
def interned : List (Array UInt16 × Addr) := []
def slotsUsed : Nat := 0
def theMethod : MethodId := ⟨1, 3⟩
def args0 : Array Value := #[.long 5, .long 6, .long 5, .long 6, .long 5, .long 6]
def aboutOver (below : List Frame) : State where
  vm := { classes := classes, interned := interned.toArray }
  heap := heap
  slotsUsed := slotsUsed
  threads := #[{ frames := .invoking theMethod args0 :: below }]
def below0 : List Frame := [.native { method := ⟨0, 0⟩, args := #[] }]
def about1 : State := aboutOver below0
def p0 : Program := .bare "" "" ""
def e0 : Env := launch0.env 0 0 0
theorem w_frames : about1.frames = Frame.invoking theMethod args0 :: below0 := rfl
set_option maxRecDepth 65536 in
theorem w_args : argsFit about1.vm theMethod args0 = true := by decide +kernel
set_option maxRecDepth 65536 in
theorem w_heap : heapFits about1 = true := by decide +kernel
set_option maxRecDepth 65536 in
theorem w_runnable : about1.curStatus? = some .runnable := by decide +kernel
set_option maxRecDepth 65536 in
theorem w_alone : about1.alone = true := by decide +kernel
set_option maxRecDepth 65536 in
theorem w_named : about1.methodNamed? x = some theMethod := by decide +kernel
set_option maxRecDepth 65536 in
theorem w_hears : about1.hears theMethod below0 = true := by decide +kernel
set_option maxRecDepth 65536 in
theorem w_ripe : about1.ripe theMethod args0 below0 = true := by decide +kernel
theorem w_running : about1.status = .running := rfl
set_option maxRecDepth 65536 in
theorem w_room : about1.hasRoom e0.platform room_1 = true :=
  launch0.hasRoom_least _ room_1 (by decide +kernel) (by decide +kernel) (by decide +kernel) (by decide +kernel) (by decide +kernel) (by decide +kernel)
theorem allAtoms_all (ts : List Jvm.Cond) (a : Array Jvm.Value) (st : Jvm.State) : (allAtoms ts).before a st = ts.all (fun c => c.before a st) := by
  induction ts with
  | nil => rfl
  | cons c t ih =>
    show (Jvm.Cond.and c (allAtoms t)).before a st = _
    rw [Jvm.Cond.before_and, ih, List.all_cons]
def words1 : List Jvm.Cond := Jvm.Cond.code x code maxLocals ret :: tables_1
/-- a 'code' word, met by the world's own term for the bytes: nothing is compared byte by byte -/
theorem code_word {y : MethodName} {bytes : ByteArray} {mx : Nat} {rt : Option FieldType} {a : Array Value} {s : State} {m : MethodId} {meth : Method} {c : Code} (h1 : s.methodNamed? y = some m) (h2 : s.vm.method? m = some meth) (h3 : meth.code = some c) (h4 : c.code = bytes)
    (h5 : (c.maxLocals == mx && c.exceptionTable.isEmpty && decide (c.maxStack ≤ mostOperands) && decide (meth.sig.returnType = rt) && !meth.locks && decide (parseMethodDescriptor y.desc = some meth.sig)) = true) : (Jvm.Cond.code y bytes mx rt).before a s = true := by
  simp only [Bool.and_eq_true, beq_iff_eq, Bool.not_eq_true', decide_eq_true_eq] at h5
  obtain ⟨⟨⟨⟨⟨g1, g2⟩, g3⟩, g4⟩, g5⟩, g6⟩ := h5
  simp [Cond.before, Cond.holds, Cond.value, h1, h2, h3, h4, g1, g2, g3, g4, g5, g6]
def isCode : Jvm.Cond → Bool
  | .code _ _ _ _ => true
  | _ => false
theorem all_split {L : List Jvm.Cond} {P : Jvm.Cond → Bool} (h1 : L.all (fun c => isCode c || P c) = true) (h2 : ∀ c ∈ L.filter isCode, P c = true) : L.all P = true := by
  refine List.all_eq_true.mpr fun c hc => ?_
  have h := List.all_eq_true.mp h1 c hc
  rcases Bool.eq_false_or_eq_true (isCode c) with hi | hi
  · exact h2 c (List.mem_filter.mpr ⟨hc, hi⟩)
  · simpa [hi] using h
set_option maxRecDepth 65536 in
theorem w_c0 : (Jvm.Cond.code x code maxLocals ret).before args0 about1 = true := code_word (m := ⟨1, 3⟩) (meth := k1m3) (c := k1c3) (by decide +kernel) rfl rfl rfl (by decide +kernel)
set_option maxRecDepth 65536 in
theorem w_c1 : (Jvm.Cond.code ({ cls := "marketmint/Words256SubtractPinLaw", name := "pick", desc := "(JIJJJJ)J" } : Jvm.MethodName) method_2_code (12 : Nat) (Option.some Jvm.ClassFile.FieldType.long)).before args0 about1 = true := code_word (m := ⟨1, 1⟩) (meth := k1m1) (c := k1c1) (by decide +kernel) rfl rfl rfl (by decide +kernel)
set_option maxRecDepth 65536 in
theorem w_c2 : (Jvm.Cond.code ({ cls := "marketmint/Words256", name := "subtract", desc := "([J[J[J)J" } : Jvm.MethodName) prog_96_method_3_code (5 : Nat) (Option.some Jvm.ClassFile.FieldType.long)).before args0 about1 = true := code_word (m := ⟨2, 2⟩) (meth := k2m2) (c := k2c2) (by decide +kernel) rfl rfl rfl (by decide +kernel)
set_option maxRecDepth 65536 in
theorem w_c3 : (Jvm.Cond.code ({ cls := "marketmint/Words256SubtractPinLaw", name := "inWord", desc := "(J)Z" } : Jvm.MethodName) method_3_code (2 : Nat) (Option.some Jvm.ClassFile.FieldType.boolean)).before args0 about1 = true := code_word (m := ⟨1, 2⟩) (meth := k1m2) (c := k1c2) (by decide +kernel) rfl rfl rfl (by decide +kernel)
set_option maxRecDepth 65536 in
theorem w_c4 : (Jvm.Cond.code ({ cls := "marketmint/Words256", name := "add", desc := "([J[J[J)J" } : Jvm.MethodName) prog_96_method_2_code (5 : Nat) (Option.some Jvm.ClassFile.FieldType.long)).before args0 about1 = true := code_word (m := ⟨2, 1⟩) (meth := k2m1) (c := k2c1) (by decide +kernel) rfl rfl rfl (by decide +kernel)
def codes1 : List Jvm.Cond := [Jvm.Cond.code x code maxLocals ret, Jvm.Cond.code ({ cls := "marketmint/Words256SubtractPinLaw", name := "pick", desc := "(JIJJJJ)J" } : Jvm.MethodName) method_2_code (12 : Nat) (Option.some Jvm.ClassFile.FieldType.long), Jvm.Cond.code ({ cls := "marketmint/Words256", name := "subtract", desc := "([J[J[J)J" } : Jvm.MethodName) prog_96_method_3_code (5 : Nat) (Option.some Jvm.ClassFile.FieldType.long), Jvm.Cond.code ({ cls := "marketmint/Words256SubtractPinLaw", name := "inWord", desc := "(J)Z" } : Jvm.MethodName) method_3_code (2 : Nat) (Option.some Jvm.ClassFile.FieldType.boolean), Jvm.Cond.code ({ cls := "marketmint/Words256", name := "add", desc := "([J[J[J)J" } : Jvm.MethodName) prog_96_method_2_code (5 : Nat) (Option.some Jvm.ClassFile.FieldType.long)]
set_option maxRecDepth 65536 in
theorem codes_eq : words1.filter isCode = codes1 := rfl
theorem w_codes : ∀ c ∈ words1.filter isCode, c.before args0 about1 = true := by
  rw [codes_eq]
  intro c hc
  simp only [codes1, List.mem_cons, List.not_mem_nil, or_false] at hc
  rcases hc with rfl | rfl | rfl | rfl | rfl
  · exact w_c0
  · exact w_c1
  · exact w_c2
  · exact w_c3
  · exact w_c4
set_option maxRecDepth 65536 in
theorem w_t1 : words1.all (fun c => isCode c || c.before args0 about1) = true := by decide +kernel
theorem w_tables : (allAtoms (Jvm.Cond.code x code maxLocals ret :: tables_1)).before args0 about1 = true := by
  rw [allAtoms_all]
  show words1.all (fun c => c.before args0 about1) = true
  refine all_split ?_ w_codes
  rw [w_t1]
set_option maxRecDepth 65536 in
theorem w_case : (Jvm.Cond.and given_1 narrow_1).before args0 about1 = true := by decide +kernel
theorem w_applies : (headSpec (Jvm.Cond.code x code maxLocals ret :: tables_1) room_1).applies x e0.platform about1 = true :=
  (Spec.applies_iff w_frames).mpr ⟨w_running, w_runnable, w_alone, w_named, w_hears, w_ripe, w_room, w_tables⟩
theorem atStart : AtStart classFile x code maxLocals ret World_1 tables_1 room_1 Calls_1 rest_1 Pre_1 launch0 p0 e0 about1 theMethod args0 below0 :=
  ⟨lists_1, trivial, launch0.admits_env _ _ _, launch0.least_env, fairChoices_fair.cas, fairChoices_fair.clock, w_frames, w_args, w_heap, w_applies, trivial, trivial, w_case⟩
end start1
theorem witness_1 : WitnessClaimed_1 := ⟨start1.p0, start1.e0, start1.about1, start1.theMethod, start1.args0, start1.below0, start1.atStart⟩
end Jvm.Pilot.@@N@@
