import JvmDerived
import JvmDerived.Pilot.@@N@@Statement
import JvmDerived.Pilot.@@N@@Code
set_option linter.unusedVariables false
set_option linter.unusedSimpArgs false
namespace Jvm.Pilot.@@N@@
open Jvm Jvm.ClassFile Sem Op Lib Jvm.Free Jvm.Stand Jvm.LawKit Jvm.RoadKit Bundle Jvm.Pilot.@@N@@.Jvm.D
section Kit
/-- from the frame g over T the run comes to a state of which P holds -/
def Run (p : Program) (e : Env) (below : List Frame) (P : State → Prop) (T : State) (g : JFrame) : Prop := ∃ t, Steps p.tables e below (T.setTop g) t ∧ P t
/-- where the walk stands: the library's Stand with what goes along with it; Z: the law's own start; h: the heap at hand -/
def St (Z : State) (own : String) (bs : ByteArray) (mL : Nat) (p : Program) (l : Launch) (e : Env) (R : Room) (s : State) (m : MethodId) (args : Array Value) (below : List Frame) (meth : Method) (c : Code) (T : State) (h : Heap) (cells slots : Nat) : Prop :=
  ∃ locs, Stand p l e R s m args below meth c T locs cells slots ∧ Fr Z.heap.size locs ∧ Ext Z.heap h ∧ T.heap = h ∧ p.tables.exec = Jvm.exec ∧ c.code = bs ∧ c.maxLocals = mL ∧ Z.Warmed39 s.vm ∧ s.vm.findClass own = some m.cls
/-- how a body ends -/
def Fini (Z : State) (s : State) (below : List Frame) (k n : Nat) (Q : Option Value → Heap → Prop) (t : State) : Prop :=
  ∃ o, t.status = .running ∧ Ended t below o ∧ ∃ v L, o = .returned v ∧ (Q v t.heap ∧ Fr Z.heap.size L ∧ Ext Z.heap t.heap) ∧ FrameEnd s o t L k n
/-- a body's contract -/
def Con (l : Launch) (y : MethodName) (bs : ByteArray) (mL : Nat) (ret : Option FieldType) (ws : List Jvm.Cond) (rm : Room) (Z : State) (as : Array Value) (h0 : Heap) (Q : Option Value → Heap → Prop) : Prop :=
  MetFree l y (head1 (Jvm.Cond.code y bs mL ret :: ws) rm) (fun a U => a = as ∧ Z.Warmed39 U.vm ∧ U.heap = h0) (fun _ _ _ _ _ => True) (fun _ U o U' => ∃ v L, o = .returned v ∧ (Q v U'.heap ∧ Fr Z.heap.size L ∧ Ext Z.heap U'.heap) ∧ FrameEnd U o U' L rm.cells rm.slots)
def pu (v : Option Value) (S : List Value) : List Value := match v with | none => S | some w => w :: S
/-- a comparison in plain words -/
def cp (cd : ClassFile.Cond) (x y : Int32) : Prop := match cd with | .eq => x = y | .ne => ¬ x = y | .lt => x < y | .ge => ¬ x < y | .gt => y < x | .le => ¬ y < x
def cpn (cd : ClassFile.Cond) (x y : Int32) : Prop := match cd with | .eq => ¬ x = y | .ne => x = y | .lt => ¬ x < y | .ge => x < y | .gt => ¬ y < x | .le => y < x
variable {Z : State} {a0 : Array Value} {own : String} {bs : ByteArray} {mL : Nat} {p : Program} {l : Launch} {e : Env} {R : Room} {s : State} {m : MethodId} {args : Array Value} {below : List Frame} {meth : Method} {c : Code} {T : State} {h : Heap} {cells slots : Nat} {P : State → Prop} {pc pc' : Nat} {Ls : Array Slot} {S : List Value} {y : MethodName} {ret : Option FieldType} {rm : Room} {ws : List Jvm.Cond} {as : Array Value} {h0 : Heap} {Q : Option Value → Heap → Prop} {kc kn : Nat}
theorem St.here (K : St Z own bs mL p l e R s m args below meth c T h cells slots) : At T m c below := by obtain ⟨_, X, -⟩ := K; exact X.here
theorem St.hx (K : St Z own bs mL p l e R s m args below meth c T h cells slots) : p.tables.exec = Jvm.exec := by obtain ⟨_, -, -, -, -, q, -⟩ := K; exact q
theorem St.bts (K : St Z own bs mL p l e R s m args below meth c T h cells slots) : c.code = bs := by obtain ⟨_, -, -, -, -, -, q, -⟩ := K; exact q
theorem St.ext (K : St Z own bs mL p l e R s m args below meth c T h cells slots) : Ext Z.heap h := by obtain ⟨_, -, -, q, -⟩ := K; exact q
theorem St.sz (K : St Z own bs mL p l e R s m args below meth c T h cells slots) : Z.heap.size ≤ h.size := K.ext.1
theorem St.more (K : St Z own bs mL p l e R s m args below meth c T h cells slots) {c' s' : Nat} (h1 : cells ≤ c') (h2 : slots ≤ s') : St Z own bs mL p l e R s m args below meth c T h c' s' := by obtain ⟨lo, X, r⟩ := K; exact ⟨lo, X.more h1 h2, r⟩
theorem con_intro (hpn : plainFor y = true) (hx0 : Ext Z.heap h0)
    (body : ∀ (p : Program) (e : Env) (s : State) (m : MethodId) (below : List Frame) (meth : Method) (c : Code) (T : State), St Z y.cls bs mL p l e rm s m as below meth c T h0 0 0 → meth.sig.returnType = ret → meth.locks = false → meth.name = y.name →
      Run p e below (Fini Z s below rm.cells rm.slots Q) T (entryFrame m as mL)) : Con l y bs mL ret ws rm Z as h0 Q := by
  refine MetFree.of_bodySF hpn hisR ?_
  intro p e s m args below meth c s₁ Bd hml0 hP hK
  obtain ⟨rfl, hZ, hh⟩ := hP
  have hnm := (name_of_methodNamed Bd.named Bd.method).1
  have X0 : Stand p l e rm s m args below meth c s₁ [] 0 0 := Stand.of_body Bd
  have e0 : s₁.heap = h0 := by rw [← hh, Bd.state]; rfl
  obtain ⟨t, st, o, h1, h2, h3⟩ := body p e s m below meth c s₁ ⟨[], X0, Fr.nil _, hx0, e0, Bd.exec, Bd.bytes, hml0, hZ, findClass_of_methodNamed Bd.named⟩ Bd.returns Bd.notSynchronized hnm
  exact ⟨t, o, st, h1, h2, h3⟩
theorem Con.mono {Q' : Option Value → Heap → Prop} (M : Con l y bs mL ret ws rm Z as h0 Q) (hq : ∀ v h, Q v h → Q' v h) : Con l y bs mL ret ws rm Z as h0 Q' := by
  intro p e ha hc hk s m args below hf hA hP hK
  obtain ⟨n, o, h1, h2, h3, v, L, h4, ⟨h5, h6⟩, h7⟩ := M p e ha hc hk s m args below hf hA hP hK
  exact ⟨n, o, h1, h2, h3, v, L, h4, ⟨hq _ _ h5, h6⟩, h7⟩
theorem r_ret (K : St Z own bs mL p l e R s m args below meth c T h cells slots) {t : FieldType} {w : Value} {i : Instr} (hret : meth.sig.returnType = some t) (hlk : meth.locks = false) (hn : narrow t w = w)
    (hi : (i = .ireturn ∧ (t = .int ∨ t = .boolean ∨ t = .byte ∨ t = .char ∨ t = .short) ∧ ∃ z, w = .int z) ∨ (i = .lreturn ∧ t = .long ∧ ∃ z, w = .long z) ∨ (i = .dreturn ∧ t = .double ∧ ∃ z, w = .double z) ∨ (i = .freturn ∧ t = .float ∧ ∃ z, w = .float z) ∨ (i = .areturn ∧ t.isReference = true ∧ w.isRef = true))
    (hd : decode bs pc = .ok (i, 1)) (hc : cells ≤ kc) (hs : slots ≤ kn) (hq : Q (some w) h) : Run p e below (Fini Z s below kc kn Q) T (mkF m pc Ls (w :: S)) := by
  obtain ⟨locs, X, N, E, eT, hx, hby, hml, hZ, hown⟩ := K
  obtain ⟨fs, hr, hrun, hended, hW, hsame⟩ := X.leave (v := some w) (fun q => by rw [hret] at q; cases q)
  exact ⟨_, retOut X hx hret hn hi (hb hby hd) hr, _, hrun, hended, _, _, rfl, ⟨eT.symm ▸ hq, N, eT.symm ▸ E⟩, ⟨_, rfl⟩, hW, hsame.mono hc hs⟩
theorem r_retI (K : St Z own bs mL p l e R s m args below meth c T h cells slots) {z : Int32} (hret : meth.sig.returnType = some .int) (hlk : meth.locks = false) (hd : decode bs pc = .ok (.ireturn, 1)) (hc : cells ≤ kc) (hs : slots ≤ kn) (hq : Q (some (.int z)) h) :
    Run p e below (Fini Z s below kc kn Q) T (mkF m pc Ls (.int z :: S)) := r_ret K hret hlk rfl (Or.inl ⟨rfl, Or.inl rfl, _, rfl⟩) hd hc hs hq
theorem r_retZ (K : St Z own bs mL p l e R s m args below meth c T h cells slots) {z : Int32} (hret : meth.sig.returnType = some .boolean) (hlk : meth.locks = false) (hn : narrow .boolean (.int z) = .int z) (hd : decode bs pc = .ok (.ireturn, 1)) (hc : cells ≤ kc) (hs : slots ≤ kn) (hq : Q (some (.int z)) h) :
    Run p e below (Fini Z s below kc kn Q) T (mkF m pc Ls (.int z :: S)) := r_ret K hret hlk hn (Or.inl ⟨rfl, Or.inr (Or.inl rfl), _, rfl⟩) hd hc hs hq
theorem r_retC (K : St Z own bs mL p l e R s m args below meth c T h cells slots) {z : Int32} (hret : meth.sig.returnType = some .char) (hlk : meth.locks = false) (hn : narrow .char (.int z) = .int z) (hd : decode bs pc = .ok (.ireturn, 1)) (hc : cells ≤ kc) (hs : slots ≤ kn) (hq : Q (some (.int z)) h) :
    Run p e below (Fini Z s below kc kn Q) T (mkF m pc Ls (.int z :: S)) := r_ret K hret hlk hn (Or.inl ⟨rfl, Or.inr (Or.inr (Or.inr (Or.inl rfl))), _, rfl⟩) hd hc hs hq
theorem r_retB (K : St Z own bs mL p l e R s m args below meth c T h cells slots) {z : Int32} (hret : meth.sig.returnType = some .byte) (hlk : meth.locks = false) (hn : narrow .byte (.int z) = .int z) (hd : decode bs pc = .ok (.ireturn, 1)) (hc : cells ≤ kc) (hs : slots ≤ kn) (hq : Q (some (.int z)) h) :
    Run p e below (Fini Z s below kc kn Q) T (mkF m pc Ls (.int z :: S)) := r_ret K hret hlk hn (Or.inl ⟨rfl, Or.inr (Or.inr (Or.inl rfl)), _, rfl⟩) hd hc hs hq
theorem r_retJ (K : St Z own bs mL p l e R s m args below meth c T h cells slots) {z : Int64} (hret : meth.sig.returnType = some .long) (hlk : meth.locks = false) (hd : decode bs pc = .ok (.lreturn, 1)) (hc : cells ≤ kc) (hs : slots ≤ kn) (hq : Q (some (.long z)) h) :
    Run p e below (Fini Z s below kc kn Q) T (mkF m pc Ls (.long z :: S)) := r_ret K hret hlk rfl (Or.inr (Or.inl ⟨rfl, rfl, _, rfl⟩)) hd hc hs hq
theorem r_retA (K : St Z own bs mL p l e R s m args below meth c T h cells slots) {t : FieldType} {w : Value} (hret : meth.sig.returnType = some t) (hlk : meth.locks = false) (ht : t.isReference = true) (hw : w.isRef = true) (hd : decode bs pc = .ok (.areturn, 1)) (hc : cells ≤ kc) (hs : slots ≤ kn) (hq : Q (some w) h) :
    Run p e below (Fini Z s below kc kn Q) T (mkF m pc Ls (w :: S)) := r_ret K hret hlk (by cases t <;> cases w <;> first | rfl | (simp [FieldType.isReference, Value.isRef] at ht hw)) (Or.inr (Or.inr (Or.inr (Or.inr ⟨rfl, ht, hw⟩)))) hd hc hs hq
theorem r_retV (K : St Z own bs mL p l e R s m args below meth c T h cells slots) (hret : meth.sig.returnType = none) (hlk : meth.locks = false) (hd : decode bs pc = .ok (.return_, 1)) (hc : cells ≤ kc) (hs : slots ≤ kn) (hq : Q none h) :
    Run p e below (Fini Z s below kc kn Q) T (mkF m pc Ls []) := by
  obtain ⟨locs, X, N, E, eT, hx, hby, hml, hZ, hown⟩ := K
  obtain ⟨fs, hr, hrun, hended, hW, hsame⟩ := X.leave (v := none) (fun _ => rfl)
  exact ⟨_, X.returnOut hx hret (hb hby hd) hr, _, hrun, hended, _, _, rfl, ⟨eT.symm ▸ hq, N, eT.symm ▸ E⟩, ⟨_, rfl⟩, hW, hsame.mono hc hs⟩
theorem r_iload (K : St Z own bs mL p l e R s m args below meth c T h cells slots) {k : Nat} {v : Int32} (hd : decode bs pc = .ok (.iload k, 2)) (hp : pc + 2 = pc') (hl : Ls[k]? = some (.val (.int v))) (r : Run p e below P T (mkF m pc' Ls (.int v :: S))) : Run p e below P T (mkF m pc Ls S) := by
  subst hp; obtain ⟨t, st, q⟩ := r; exact ⟨t, XS.iload K.here K.hx rfl (hb K.bts hd) hl st, q⟩
theorem r_iloadN (K : St Z own bs mL p l e R s m args below meth c T h cells slots) {k : Fin 4} {v : Int32} (hd : decode bs pc = .ok (.iload_n k, 1)) (hp : pc + 1 = pc') (hl : Ls[k.val]? = some (.val (.int v))) (r : Run p e below P T (mkF m pc' Ls (.int v :: S))) : Run p e below P T (mkF m pc Ls S) := by
  subst hp; obtain ⟨t, st, q⟩ := r; exact ⟨t, XS.iloadN K.here K.hx rfl (hb K.bts hd) hl st, q⟩
theorem r_lload (K : St Z own bs mL p l e R s m args below meth c T h cells slots) {k : Nat} {v : Int64} (hd : decode bs pc = .ok (.lload k, 2)) (hp : pc + 2 = pc') (hl : Ls[k]? = some (.val (.long v))) (r : Run p e below P T (mkF m pc' Ls (.long v :: S))) : Run p e below P T (mkF m pc Ls S) := by
  subst hp; obtain ⟨t, st, q⟩ := r; exact ⟨t, XS.lload K.here K.hx rfl (hb K.bts hd) hl st, q⟩
theorem r_lloadN (K : St Z own bs mL p l e R s m args below meth c T h cells slots) {k : Fin 4} {v : Int64} (hd : decode bs pc = .ok (.lload_n k, 1)) (hp : pc + 1 = pc') (hl : Ls[k.val]? = some (.val (.long v))) (r : Run p e below P T (mkF m pc' Ls (.long v :: S))) : Run p e below P T (mkF m pc Ls S) := by
  subst hp; obtain ⟨t, st, q⟩ := r; exact ⟨t, XS.lloadN K.here K.hx rfl (hb K.bts hd) hl st, q⟩
theorem r_aload (K : St Z own bs mL p l e R s m args below meth c T h cells slots) {k : Nat} {v : Value} (hd : decode bs pc = .ok (.aload k, 2)) (hp : pc + 2 = pc') (hl : Ls[k]? = some (.val v)) (hv : v.isRef = true) (r : Run p e below P T (mkF m pc' Ls (v :: S))) : Run p e below P T (mkF m pc Ls S) := by
  subst hp; obtain ⟨t, st, q⟩ := r; exact ⟨t, XS.aload K.here K.hx rfl (hb K.bts hd) hl hv st, q⟩
theorem r_aloadN (K : St Z own bs mL p l e R s m args below meth c T h cells slots) {k : Fin 4} {v : Value} (hd : decode bs pc = .ok (.aload_n k, 1)) (hp : pc + 1 = pc') (hl : Ls[k.val]? = some (.val v)) (hv : v.isRef = true) (r : Run p e below P T (mkF m pc' Ls (v :: S))) : Run p e below P T (mkF m pc Ls S) := by
  subst hp; obtain ⟨t, st, q⟩ := r; exact ⟨t, XS.aloadN K.here K.hx rfl (hb K.bts hd) hl hv st, q⟩
theorem r_istore (K : St Z own bs mL p l e R s m args below meth c T h cells slots) {k : Nat} {x : Int32} {Ls' : Array Slot} (hd : decode bs pc = .ok (.istore k, 2)) (hp : pc + 2 = pc') (hl : storeLocals Ls k (.int x) = some Ls') (r : Run p e below P T (mkF m pc' Ls' S)) : Run p e below P T (mkF m pc Ls (.int x :: S)) := by
  subst hp; obtain ⟨t, st, q⟩ := r; exact ⟨t, XS.istore K.here K.hx rfl (hb K.bts hd) rfl hl st, q⟩
theorem r_istoreN (K : St Z own bs mL p l e R s m args below meth c T h cells slots) {k : Fin 4} {x : Int32} {Ls' : Array Slot} (hd : decode bs pc = .ok (.istore_n k, 1)) (hp : pc + 1 = pc') (hl : storeLocals Ls k.val (.int x) = some Ls') (r : Run p e below P T (mkF m pc' Ls' S)) : Run p e below P T (mkF m pc Ls (.int x :: S)) := by
  subst hp; obtain ⟨t, st, q⟩ := r; exact ⟨t, XS.istoreN K.here K.hx rfl (hb K.bts hd) rfl hl st, q⟩
theorem r_lstore (K : St Z own bs mL p l e R s m args below meth c T h cells slots) {k : Nat} {x : Int64} {Ls' : Array Slot} (hd : decode bs pc = .ok (.lstore k, 2)) (hp : pc + 2 = pc') (hl : storeLocals Ls k (.long x) = some Ls') (r : Run p e below P T (mkF m pc' Ls' S)) : Run p e below P T (mkF m pc Ls (.long x :: S)) := by
  subst hp; obtain ⟨t, st, q⟩ := r; exact ⟨t, XS.lstore K.here K.hx rfl (hb K.bts hd) rfl hl st, q⟩
theorem r_lstoreN (K : St Z own bs mL p l e R s m args below meth c T h cells slots) {k : Fin 4} {x : Int64} {Ls' : Array Slot} (hd : decode bs pc = .ok (.lstore_n k, 1)) (hp : pc + 1 = pc') (hl : storeLocals Ls k.val (.long x) = some Ls') (r : Run p e below P T (mkF m pc' Ls' S)) : Run p e below P T (mkF m pc Ls (.long x :: S)) := by
  subst hp; obtain ⟨t, st, q⟩ := r; exact ⟨t, XS.lstoreN K.here K.hx rfl (hb K.bts hd) rfl hl st, q⟩
theorem r_astore (K : St Z own bs mL p l e R s m args below meth c T h cells slots) {k : Nat} {x : Value} {Ls' : Array Slot} (hd : decode bs pc = .ok (.astore k, 2)) (hp : pc + 2 = pc') (hv : x.isRef = true) (hl : storeLocals Ls k x = some Ls') (r : Run p e below P T (mkF m pc' Ls' S)) : Run p e below P T (mkF m pc Ls (x :: S)) := by
  subst hp; obtain ⟨t, st, q⟩ := r; exact ⟨t, XS.astore K.here K.hx rfl (hb K.bts hd) rfl hv hl st, q⟩
theorem r_astoreN (K : St Z own bs mL p l e R s m args below meth c T h cells slots) {k : Fin 4} {x : Value} {Ls' : Array Slot} (hd : decode bs pc = .ok (.astore_n k, 1)) (hp : pc + 1 = pc') (hv : x.isRef = true) (hl : storeLocals Ls k.val x = some Ls') (r : Run p e below P T (mkF m pc' Ls' S)) : Run p e below P T (mkF m pc Ls (x :: S)) := by
  subst hp; obtain ⟨t, st, q⟩ := r; exact ⟨t, XS.astoreN K.here K.hx rfl (hb K.bts hd) rfl hv hl st, q⟩
theorem r_iinc (K : St Z own bs mL p l e R s m args below meth c T h cells slots) {k : Nat} {cst : Int} {x v : Int32} {Ls' : Array Slot} (hd : decode bs pc = .ok (.iinc k cst, 3)) (hp : pc + 3 = pc') (hv : Int32.ofInt cst = v) (hl : Ls[k]? = some (.val (.int x))) (hl' : storeLocals Ls k (.int (x + v)) = some Ls') (r : Run p e below P T (mkF m pc' Ls' S)) : Run p e below P T (mkF m pc Ls S) := by
  subst hp hv; obtain ⟨t, st, q⟩ := r; exact ⟨t, XS.iinc K.here K.hx rfl (hb K.bts hd) hl hl' st, q⟩
theorem r_iconst (K : St Z own bs mL p l e R s m args below meth c T h cells slots) {i : Int} {v : Int32} (hd : decode bs pc = .ok (.iconst i, 1)) (hp : pc + 1 = pc') (hv : Int32.ofInt i = v) (r : Run p e below P T (mkF m pc' Ls (.int v :: S))) : Run p e below P T (mkF m pc Ls S) := by
  subst hp hv; obtain ⟨t, st, q⟩ := r; exact ⟨t, XS.iconst K.here K.hx rfl (hb K.bts hd) st, q⟩
theorem r_bipush (K : St Z own bs mL p l e R s m args below meth c T h cells slots) {i : Int} {v : Int32} (hd : decode bs pc = .ok (.bipush i, 2)) (hp : pc + 2 = pc') (hv : (Int8.ofInt i).toInt32 = v) (r : Run p e below P T (mkF m pc' Ls (.int v :: S))) : Run p e below P T (mkF m pc Ls S) := by
  subst hp hv; obtain ⟨t, st, q⟩ := r; exact ⟨t, XS.bipush K.here K.hx rfl (hb K.bts hd) st, q⟩
theorem r_sipush (K : St Z own bs mL p l e R s m args below meth c T h cells slots) {i : Int} {v : Int32} (hd : decode bs pc = .ok (.sipush i, 3)) (hp : pc + 3 = pc') (hv : (Int16.ofInt i).toInt32 = v) (r : Run p e below P T (mkF m pc' Ls (.int v :: S))) : Run p e below P T (mkF m pc Ls S) := by
  subst hp hv; obtain ⟨t, st, q⟩ := r; exact ⟨t, XS.sipush K.here K.hx rfl (hb K.bts hd) st, q⟩
theorem r_lconst (K : St Z own bs mL p l e R s m args below meth c T h cells slots) {k : Fin 2} {v : Int64} (hd : decode bs pc = .ok (.lconst k, 1)) (hp : pc + 1 = pc') (hv : Int64.ofNat k = v) (r : Run p e below P T (mkF m pc' Ls (.long v :: S))) : Run p e below P T (mkF m pc Ls S) := by
  subst hp hv; obtain ⟨t, st, q⟩ := r; exact ⟨t, XS.lconst K.here K.hx rfl (hb K.bts hd) st, q⟩
theorem r_aconstNull (K : St Z own bs mL p l e R s m args below meth c T h cells slots)  (hd : decode bs pc = .ok (.aconst_null, 1)) (hp : pc + 1 = pc')  (r : Run p e below P T (mkF m pc' Ls (.null :: S))) : Run p e below P T (mkF m pc Ls S) := by
  subst hp; obtain ⟨t, st, q⟩ := r; exact ⟨t, XS.aconstNull K.here K.hx rfl (hb K.bts hd)  st, q⟩
theorem r_iadd (K : St Z own bs mL p l e R s m args below meth c T h cells slots) {x y : Int32} (hd : decode bs pc = .ok (.iadd, 1)) (hp : pc + 1 = pc')  (r : Run p e below P T (mkF m pc' Ls (.int (x + y) :: S))) : Run p e below P T (mkF m pc Ls (.int y :: .int x :: S)) := by
  subst hp; obtain ⟨t, st, q⟩ := r; exact ⟨t, XS.iadd K.here K.hx rfl (hb K.bts hd) rfl st, q⟩
theorem r_isub (K : St Z own bs mL p l e R s m args below meth c T h cells slots) {x y : Int32} (hd : decode bs pc = .ok (.isub, 1)) (hp : pc + 1 = pc')  (r : Run p e below P T (mkF m pc' Ls (.int (x - y) :: S))) : Run p e below P T (mkF m pc Ls (.int y :: .int x :: S)) := by
  subst hp; obtain ⟨t, st, q⟩ := r; exact ⟨t, XS.isub K.here K.hx rfl (hb K.bts hd) rfl st, q⟩
theorem r_imul (K : St Z own bs mL p l e R s m args below meth c T h cells slots) {x y : Int32} (hd : decode bs pc = .ok (.imul, 1)) (hp : pc + 1 = pc')  (r : Run p e below P T (mkF m pc' Ls (.int (x * y) :: S))) : Run p e below P T (mkF m pc Ls (.int y :: .int x :: S)) := by
  subst hp; obtain ⟨t, st, q⟩ := r; exact ⟨t, XS.imul K.here K.hx rfl (hb K.bts hd) rfl st, q⟩
theorem r_iand (K : St Z own bs mL p l e R s m args below meth c T h cells slots) {x y : Int32} (hd : decode bs pc = .ok (.iand, 1)) (hp : pc + 1 = pc')  (r : Run p e below P T (mkF m pc' Ls (.int (x &&& y) :: S))) : Run p e below P T (mkF m pc Ls (.int y :: .int x :: S)) := by
  subst hp; obtain ⟨t, st, q⟩ := r; exact ⟨t, XS.iand K.here K.hx rfl (hb K.bts hd) rfl st, q⟩
theorem r_ior (K : St Z own bs mL p l e R s m args below meth c T h cells slots) {x y : Int32} (hd : decode bs pc = .ok (.ior, 1)) (hp : pc + 1 = pc')  (r : Run p e below P T (mkF m pc' Ls (.int (x ||| y) :: S))) : Run p e below P T (mkF m pc Ls (.int y :: .int x :: S)) := by
  subst hp; obtain ⟨t, st, q⟩ := r; exact ⟨t, XS.ior K.here K.hx rfl (hb K.bts hd) rfl st, q⟩
theorem r_ixor (K : St Z own bs mL p l e R s m args below meth c T h cells slots) {x y : Int32} (hd : decode bs pc = .ok (.ixor, 1)) (hp : pc + 1 = pc')  (r : Run p e below P T (mkF m pc' Ls (.int (x ^^^ y) :: S))) : Run p e below P T (mkF m pc Ls (.int y :: .int x :: S)) := by
  subst hp; obtain ⟨t, st, q⟩ := r; exact ⟨t, XS.ixor K.here K.hx rfl (hb K.bts hd) rfl st, q⟩
theorem r_ishl (K : St Z own bs mL p l e R s m args below meth c T h cells slots) {x y : Int32} (hd : decode bs pc = .ok (.ishl, 1)) (hp : pc + 1 = pc')  (r : Run p e below P T (mkF m pc' Ls (.int (x <<< (y &&& 31)) :: S))) : Run p e below P T (mkF m pc Ls (.int y :: .int x :: S)) := by
  subst hp; obtain ⟨t, st, q⟩ := r; exact ⟨t, XS.ishl K.here K.hx rfl (hb K.bts hd) rfl st, q⟩
theorem r_ishr (K : St Z own bs mL p l e R s m args below meth c T h cells slots) {x y : Int32} (hd : decode bs pc = .ok (.ishr, 1)) (hp : pc + 1 = pc')  (r : Run p e below P T (mkF m pc' Ls (.int (x >>> (y &&& 31)) :: S))) : Run p e below P T (mkF m pc Ls (.int y :: .int x :: S)) := by
  subst hp; obtain ⟨t, st, q⟩ := r; exact ⟨t, XS.ishr K.here K.hx rfl (hb K.bts hd) rfl st, q⟩
theorem r_iushr (K : St Z own bs mL p l e R s m args below meth c T h cells slots) {x y : Int32} (hd : decode bs pc = .ok (.iushr, 1)) (hp : pc + 1 = pc')  (r : Run p e below P T (mkF m pc' Ls (.int ((x.toUInt32 >>> (y &&& 31).toUInt32).toInt32) :: S))) : Run p e below P T (mkF m pc Ls (.int y :: .int x :: S)) := by
  subst hp; obtain ⟨t, st, q⟩ := r; exact ⟨t, XS.iushr K.here K.hx rfl (hb K.bts hd) rfl st, q⟩
theorem r_ladd (K : St Z own bs mL p l e R s m args below meth c T h cells slots) {x y : Int64} (hd : decode bs pc = .ok (.ladd, 1)) (hp : pc + 1 = pc')  (r : Run p e below P T (mkF m pc' Ls (.long (x + y) :: S))) : Run p e below P T (mkF m pc Ls (.long y :: .long x :: S)) := by
  subst hp; obtain ⟨t, st, q⟩ := r; exact ⟨t, XS.ladd K.here K.hx rfl (hb K.bts hd) rfl st, q⟩
theorem r_lsub (K : St Z own bs mL p l e R s m args below meth c T h cells slots) {x y : Int64} (hd : decode bs pc = .ok (.lsub, 1)) (hp : pc + 1 = pc')  (r : Run p e below P T (mkF m pc' Ls (.long (x - y) :: S))) : Run p e below P T (mkF m pc Ls (.long y :: .long x :: S)) := by
  subst hp; obtain ⟨t, st, q⟩ := r; exact ⟨t, XS.lsub K.here K.hx rfl (hb K.bts hd) rfl st, q⟩
theorem r_lmul (K : St Z own bs mL p l e R s m args below meth c T h cells slots) {x y : Int64} (hd : decode bs pc = .ok (.lmul, 1)) (hp : pc + 1 = pc')  (r : Run p e below P T (mkF m pc' Ls (.long (x * y) :: S))) : Run p e below P T (mkF m pc Ls (.long y :: .long x :: S)) := by
  subst hp; obtain ⟨t, st, q⟩ := r; exact ⟨t, XS.lmul K.here K.hx rfl (hb K.bts hd) rfl st, q⟩
theorem r_land (K : St Z own bs mL p l e R s m args below meth c T h cells slots) {x y : Int64} (hd : decode bs pc = .ok (.land, 1)) (hp : pc + 1 = pc')  (r : Run p e below P T (mkF m pc' Ls (.long (x &&& y) :: S))) : Run p e below P T (mkF m pc Ls (.long y :: .long x :: S)) := by
  subst hp; obtain ⟨t, st, q⟩ := r; exact ⟨t, XS.land K.here K.hx rfl (hb K.bts hd) rfl st, q⟩
theorem r_idiv (K : St Z own bs mL p l e R s m args below meth c T h cells slots) {x y : Int32} (hd : decode bs pc = .ok (.idiv, 1)) (hp : pc + 1 = pc') (hy : y ≠ 0) (r : Run p e below P T (mkF m pc' Ls (.int (x / y) :: S))) : Run p e below P T (mkF m pc Ls (.int y :: .int x :: S)) := by
  subst hp; obtain ⟨t, st, q⟩ := r; exact ⟨t, XS.idiv K.here K.hx rfl (hb K.bts hd) rfl hy st, q⟩
theorem r_ldiv (K : St Z own bs mL p l e R s m args below meth c T h cells slots) {x y : Int64} (hd : decode bs pc = .ok (.ldiv, 1)) (hp : pc + 1 = pc') (hy : y ≠ 0) (r : Run p e below P T (mkF m pc' Ls (.long (x / y) :: S))) : Run p e below P T (mkF m pc Ls (.long y :: .long x :: S)) := by
  subst hp; obtain ⟨t, st, q⟩ := r; exact ⟨t, XS.ldiv K.here K.hx rfl (hb K.bts hd) rfl hy st, q⟩
theorem r_lrem (K : St Z own bs mL p l e R s m args below meth c T h cells slots) {x y : Int64} (hd : decode bs pc = .ok (.lrem, 1)) (hp : pc + 1 = pc') (hy : y ≠ 0) (r : Run p e below P T (mkF m pc' Ls (.long (x - (x / y) * y) :: S))) : Run p e below P T (mkF m pc Ls (.long y :: .long x :: S)) := by
  subst hp; obtain ⟨t, st, q⟩ := r; exact ⟨t, XS.lrem K.here K.hx rfl (hb K.bts hd) rfl hy st, q⟩
theorem r_irem (K : St Z own bs mL p l e R s m args below meth c T h cells slots) {x y : Int32} (hd : decode bs pc = .ok (.irem, 1)) (hp : pc + 1 = pc') (hy : y ≠ 0) (r : Run p e below P T (mkF m pc' Ls (.int (x % y) :: S))) : Run p e below P T (mkF m pc Ls (.int y :: .int x :: S)) := by
  subst hp; obtain ⟨_, X, -⟩ := id K; obtain ⟨t, st, q⟩ := r; exact ⟨t, iremM X K.hx rfl (hb K.bts hd) rfl hy st, q⟩
theorem r_ineg (K : St Z own bs mL p l e R s m args below meth c T h cells slots) {x : Int32} (hd : decode bs pc = .ok (.ineg, 1)) (hp : pc + 1 = pc')  (r : Run p e below P T (mkF m pc' Ls (.int (-x) :: S))) : Run p e below P T (mkF m pc Ls (.int x :: S)) := by
  subst hp; obtain ⟨t, st, q⟩ := r; exact ⟨t, XS.ineg K.here K.hx rfl (hb K.bts hd) rfl st, q⟩
theorem r_i2b (K : St Z own bs mL p l e R s m args below meth c T h cells slots) {x : Int32} (hd : decode bs pc = .ok (.i2b, 1)) (hp : pc + 1 = pc')  (r : Run p e below P T (mkF m pc' Ls (.int (x.toInt8.toInt32) :: S))) : Run p e below P T (mkF m pc Ls (.int x :: S)) := by
  subst hp; obtain ⟨t, st, q⟩ := r; exact ⟨t, XS.i2b K.here K.hx rfl (hb K.bts hd) rfl st, q⟩
theorem r_i2c (K : St Z own bs mL p l e R s m args below meth c T h cells slots) {x : Int32} (hd : decode bs pc = .ok (.i2c, 1)) (hp : pc + 1 = pc')  (r : Run p e below P T (mkF m pc' Ls (.int (x.toUInt32.toUInt16.toUInt32.toInt32) :: S))) : Run p e below P T (mkF m pc Ls (.int x :: S)) := by
  subst hp; obtain ⟨t, st, q⟩ := r; exact ⟨t, XS.i2c K.here K.hx rfl (hb K.bts hd) rfl st, q⟩
theorem r_i2l (K : St Z own bs mL p l e R s m args below meth c T h cells slots) {x : Int32} (hd : decode bs pc = .ok (.i2l, 1)) (hp : pc + 1 = pc')  (r : Run p e below P T (mkF m pc' Ls (.long (x.toInt64) :: S))) : Run p e below P T (mkF m pc Ls (.int x :: S)) := by
  subst hp; obtain ⟨t, st, q⟩ := r; exact ⟨t, XS.i2l K.here K.hx rfl (hb K.bts hd) rfl st, q⟩
theorem r_l2i (K : St Z own bs mL p l e R s m args below meth c T h cells slots) {x : Int64} (hd : decode bs pc = .ok (.l2i, 1)) (hp : pc + 1 = pc')  (r : Run p e below P T (mkF m pc' Ls (.int (x.toInt32) :: S))) : Run p e below P T (mkF m pc Ls (.long x :: S)) := by
  subst hp; obtain ⟨t, st, q⟩ := r; exact ⟨t, XS.l2i K.here K.hx rfl (hb K.bts hd) rfl st, q⟩
theorem r_lneg (K : St Z own bs mL p l e R s m args below meth c T h cells slots) {x : Int64} (hd : decode bs pc = .ok (.lneg, 1)) (hp : pc + 1 = pc')  (r : Run p e below P T (mkF m pc' Ls (.long (-x) :: S))) : Run p e below P T (mkF m pc Ls (.long x :: S)) := by
  subst hp; obtain ⟨t, st, q⟩ := r; exact ⟨t, XS.lneg K.here K.hx rfl (hb K.bts hd) rfl st, q⟩
theorem r_dup (K : St Z own bs mL p l e R s m args below meth c T h cells slots) {x : Value} (hd : decode bs pc = .ok (.dup, 1)) (hp : pc + 1 = pc') (hc : x.category = 1) (r : Run p e below P T (mkF m pc' Ls (x :: x :: S))) : Run p e below P T (mkF m pc Ls (x :: S)) := by
  subst hp; obtain ⟨t, st, q⟩ := r; exact ⟨t, XS.dup K.here K.hx rfl (hb K.bts hd) rfl hc st, q⟩
theorem r_pop (K : St Z own bs mL p l e R s m args below meth c T h cells slots) {x : Value} (hd : decode bs pc = .ok (.pop, 1)) (hp : pc + 1 = pc') (hc : x.category = 1) (r : Run p e below P T (mkF m pc' Ls S)) : Run p e below P T (mkF m pc Ls (x :: S)) := by
  subst hp; obtain ⟨t, st, q⟩ := r; exact ⟨t, XS.pop K.here K.hx rfl (hb K.bts hd) rfl hc st, q⟩
theorem r_lcmp (K : St Z own bs mL p l e R s m args below meth c T h cells slots) {x y : Int64} (hd : decode bs pc = .ok (.lcmp, 1)) (hp : pc + 1 = pc')  (r : Run p e below P T (mkF m pc' Ls (.int (lcmpW x y) :: S))) : Run p e below P T (mkF m pc Ls (.long y :: .long x :: S)) := by
  subst hp; obtain ⟨t, st, q⟩ := r; exact ⟨t, XS.lcmp K.here K.hx rfl (hb K.bts hd) rfl st, q⟩
theorem r_goto (K : St Z own bs mL p l e R s m args below meth c T h cells slots) {o : Int} (hd : decode bs pc = .ok (.goto o, 3)) (ho : 0 ≤ (pc : Int) + o) (hp : ((pc : Int) + o).toNat = pc') (r : Run p e below P T (mkF m pc' Ls S)) : Run p e below P T (mkF m pc Ls S) := by
  obtain ⟨t, st, q⟩ := r; exact ⟨t, XS.goto K.here K.hx rfl (pc0 := pc) (pc' := pc') rfl (hb K.bts hd) ho hp st, q⟩
theorem cp_t {cd : ClassFile.Cond} {x y : Int32} (h : cp cd x y) : if_icmp.holds cd x y = true := by
  cases cd
  · exact (teq h).1
  · exact (feq h).2
  · exact (tlt h).1
  · exact (flt h).2.1
  · exact (tlt h).2.2.1
  · exact (flt h).2.2.2
theorem cp_n {cd : ClassFile.Cond} {x y : Int32} (h : ¬ cp cd x y) : cpn cd x y := by
  cases cd
  · exact h
  · exact Classical.not_not.mp h
  · exact h
  · exact Classical.not_not.mp h
  · exact h
  · exact Classical.not_not.mp h
theorem cp_f {cd : ClassFile.Cond} {x y : Int32} (h : cpn cd x y) : if_icmp.holds cd x y = false := by
  cases cd
  · exact (feq h).1
  · exact (teq h).2
  · exact (flt h).1
  · exact (tlt h).2.1
  · exact (flt h).2.2.1
  · exact (tlt h).2.2.2
theorem r_icmp (K : St Z own bs mL p l e R s m args below meth c T h cells slots) {cd : ClassFile.Cond} {x y : Int32} {o : Int} {pc1 pc2 : Nat} (hd : decode bs pc = .ok (.if_icmp cd o, 3)) (h1 : pc + 3 = pc1) (ho : 0 ≤ (pc : Int) + o) (h2 : ((pc : Int) + o).toNat = pc2)
    (r2 : cp cd x y → Run p e below P T (mkF m pc2 Ls S)) (r1 : cpn cd x y → Run p e below P T (mkF m pc1 Ls S)) : Run p e below P T (mkF m pc Ls (.int y :: .int x :: S)) := by
  subst h1
  by_cases hc : cp cd x y
  · obtain ⟨t, st, q⟩ := r2 hc; exact ⟨t, XS.icmpYes K.here K.hx rfl (pc0 := pc) (pc' := pc2) rfl (hb K.bts hd) rfl (cp_t hc) ho h2 st, q⟩
  · obtain ⟨t, st, q⟩ := r1 (cp_n hc); exact ⟨t, XS.icmpNo K.here K.hx rfl (hb K.bts hd) rfl (cp_f (cp_n hc)) st, q⟩
theorem r_if (K : St Z own bs mL p l e R s m args below meth c T h cells slots) {cd : ClassFile.Cond} {x : Int32} {o : Int} {pc1 pc2 : Nat} (hd : decode bs pc = .ok (.ifCond cd o, 3)) (h1 : pc + 3 = pc1) (ho : 0 ≤ (pc : Int) + o) (h2 : ((pc : Int) + o).toNat = pc2)
    (r2 : cp cd x 0 → Run p e below P T (mkF m pc2 Ls S)) (r1 : cpn cd x 0 → Run p e below P T (mkF m pc1 Ls S)) : Run p e below P T (mkF m pc Ls (.int x :: S)) := by
  subst h1
  by_cases hc : cp cd x 0
  · obtain ⟨t, st, q⟩ := r2 hc; exact ⟨t, XS.ifYes K.here K.hx rfl (pc0 := pc) (pc' := pc2) rfl (hb K.bts hd) rfl ((if0 _ _).trans (cp_t hc)) ho h2 st, q⟩
  · obtain ⟨t, st, q⟩ := r1 (cp_n hc); exact ⟨t, XS.ifNo K.here K.hx rfl (hb K.bts hd) rfl ((if0 _ _).trans (cp_f (cp_n hc))) st, q⟩
theorem r_nonnullYes (K : St Z own bs mL p l e R s m args below meth c T h cells slots) {b : Addr} {o : Int} (hd : decode bs pc = .ok (.ifnonnull o, 3)) (ho : 0 ≤ (pc : Int) + o) (h2 : ((pc : Int) + o).toNat = pc') (r : Run p e below P T (mkF m pc' Ls S)) : Run p e below P T (mkF m pc Ls (.ref b :: S)) := by
  obtain ⟨t, st, q⟩ := r; exact ⟨t, XS.ifnonnullYes K.here K.hx rfl (pc0 := pc) (pc' := pc') rfl (hb K.bts hd) rfl ho h2 st, q⟩
theorem r_nonnullNo (K : St Z own bs mL p l e R s m args below meth c T h cells slots) {o : Int} (hd : decode bs pc = .ok (.ifnonnull o, 3)) (h1 : pc + 3 = pc') (r : Run p e below P T (mkF m pc' Ls S)) : Run p e below P T (mkF m pc Ls (.null :: S)) := by
  subst h1; obtain ⟨t, st, q⟩ := r; exact ⟨t, XS.ifnonnullNo K.here K.hx rfl (hb K.bts hd) rfl st, q⟩
theorem r_getF (K : St Z own bs mL p l e R s m args below meth c T h cells slots) {O n d : String} {index : Nat} {a : Addr} {v : Value} (w : (Jvm.Cond.fieldLink own index O n d).before a0 Z = true) (F : Fld Z h a O n d v) (hd : decode bs pc = .ok (.getfield index, 3)) (hp : pc + 3 = pc')
    (r : ∀ T', St Z own bs mL p l e R s m args below meth c T' h cells slots → Run p e below P T' (mkF m pc' Ls (v :: S))) : Run p e below P T (mkF m pc Ls (.ref a :: S)) := by
  subst hp; obtain ⟨locs, X, N, E, eT, hx, hby, hml, hZ, hown⟩ := K
  obtain ⟨T', X', e', st⟩ := getF X hx hZ hown (host := "") (Or.inl w) Via.refl eT F (g := mkF m pc Ls (.ref a :: S)) rfl rfl (hb hby hd)
  obtain ⟨t, st2, q⟩ := r T' ⟨locs, X', N, E, e', hx, hby, hml, hZ, hown⟩
  exact ⟨t, st _ st2, q⟩
theorem r_getS (K : St Z own bs mL p l e R s m args below meth c T h cells slots) {O n d : String} {index : Nat} {v : Value} (w : (Jvm.Cond.fieldLink own index O n d).before a0 Z = true) (F : Sta Z h O n d v) (hd : decode bs pc = .ok (.getstatic index, 3)) (hp : pc + 3 = pc')
    (r : ∀ T', St Z own bs mL p l e R s m args below meth c T' h cells slots → Run p e below P T' (mkF m pc' Ls (v :: S))) : Run p e below P T (mkF m pc Ls S) := by
  subst hp; obtain ⟨locs, X, N, E, eT, hx, hby, hml, hZ, hown⟩ := K
  obtain ⟨T', X', e', st⟩ := getS X hx hZ hown (host := "") w Via.refl eT F (g := mkF m pc Ls S) rfl (hb hby hd)
  obtain ⟨t, st2, q⟩ := r T' ⟨locs, X', N, E, e', hx, hby, hml, hZ, hown⟩
  exact ⟨t, st _ st2, q⟩
theorem old_wr {a : Addr} {sl : Nat} {v : Value} {h' : Heap} (E : Ext Z.heap h) (W : Wr h h' a sl v) (g : Z.heap.size ≤ a) : Ext Z.heap h' := (Old.wr (Z := Z) (n0 := Z.heap.size) ⟨rfl, E⟩ W g).2
theorem fr_snoc {a : Addr} {sl k : Nat} {locs : List Loc} (N : Fr k locs) (g : k ≤ a) : Fr k (locs ++ [⟨a, sl⟩]) := N.app fun y hy => by cases List.mem_singleton.mp hy; exact g
theorem r_putF (K : St Z own bs mL p l e R s m args below meth c T h cells slots) {O n d C : String} {index kk : Nat} {ty : FieldType} {a : Addr} {v old : Value} (w : (Jvm.Cond.fieldLink own index O n d).before a0 Z = true) (F : Fld Z h a O n d old) (E0 : Exa Z h a C) (g : Z.heap.size ≤ a)
    (L : (Jvm.Cond.lays C O n d).before a0 Z = true ∨ ((Jvm.Cond.laysFinal C O n d).before a0 Z = true ∧ own = O ∧ meth.name = "<init>")) (wi : (Jvm.Cond.instantiable C kk).before a0 Z = true) (hty : parseFieldDescriptor d = some ty) (hn : narrow ty v = v) (hf : fits ty v = true) (hd : decode bs pc = .ok (.putfield index, 3)) (hp : pc + 3 = pc')
    (r : ∀ T' h', St Z own bs mL p l e R s m args below meth c T' h' cells slots → Wr h h' a (Jvm.RoadKit.slotOf Z O n d) v → Run p e below P T' (mkF m pc' Ls S)) : Run p e below P T (mkF m pc Ls (v :: .ref a :: S)) := by
  subst hp; obtain ⟨locs, X, N, E, eT, hx, hby, hml, hZ, hown⟩ := K
  obtain ⟨T', h', X', e', W, st⟩ := putF X hx hZ hown (host := "") (Or.inl w) Via.refl eT F E0 L wi hty hn hf (g := mkF m pc Ls (v :: .ref a :: S)) rfl rfl (hb hby hd)
  obtain ⟨t, st2, q⟩ := r T' h' ⟨_, X', fr_snoc N g, old_wr E W g, e', hx, hby, hml, hZ, hown⟩ W
  exact ⟨t, st _ st2, q⟩
theorem ext_tr {h1 h2 h3 : Heap} (E : Ext h1 h2) (F : Ext h2 h3) : Ext h1 h3 := ⟨Nat.le_trans E.1 F.1, fun a c q => F.2 a c (E.2 a c q)⟩
theorem r_new (K : St Z own bs mL p l e R s m args below meth c T h cells slots) {C : String} {index n : Nat} (w : (Jvm.Cond.classLink own index C).before a0 Z = true) (wi : (Jvm.Cond.instantiable C n).before a0 Z = true) (wz : (Jvm.Cond.initialized C).before a0 Z = true) (hd : decode bs pc = .ok (.new index, 3)) (hp : pc + 3 = pc') (hc : cells + 1 ≤ R.cells) (hl : slots + n ≤ R.slots)
    (r : ∀ T' h' a, a = h.size → St Z own bs mL p l e R s m args below meth c T' h' (cells + 1) (slots + n) → Ext h h' → Exa Z h' a C → (∀ {O nm d : String} {ty : FieldType}, Laid Z a0 C O nm d → parseFieldDescriptor d = some ty → Fld Z h' a O nm d (defaultValue ty)) → Run p e below P T' (mkF m pc' Ls (.ref a :: S))) : Run p e below P T (mkF m pc Ls S) := by
  subst hp; obtain ⟨locs, X, N, E, eT, hx, hby, hml, hZ, hown⟩ := K
  obtain ⟨T', h', X', e', E', A, D, -, st⟩ := newO X hx hZ hown w wi wz eT (g := mkF m pc Ls S) rfl (hb hby hd) hc hl
  obtain ⟨t, st2, q⟩ := r T' h' _ rfl ⟨_, X', N, ext_tr E E', e', hx, hby, hml, hZ, hown⟩ E' A D
  exact ⟨t, st _ st2, q⟩
theorem r_newarr (K : St Z own bs mL p l e R s m args below meth c T h cells slots) {aty : ArrayType} {n : Int32} {cap : Nat} (w : (Jvm.Cond.arrayClass (newarray.typeOf aty)).before a0 Z = true) (hd : decode bs pc = .ok (.newarray aty, 2)) (hp : pc + 2 = pc') (hn : ¬ n < 0) (hcap : n.toNatClampNeg ≤ cap) (hb8 : cap * 8 ≤ 536870912) (hc : cells + 1 ≤ R.cells) (hl : slots + cap ≤ R.slots)
    (r : ∀ T' h' a k, a = h.size → St Z own bs mL p l e R s m args below meth c T' h' (cells + 1) (slots + cap) → Ext h h' → Arv Z h' a k (newarray.typeOf aty) n [] (defaultValue (newarray.typeOf aty)) → Run p e below P T' (mkF m pc' Ls (.ref a :: S))) : Run p e below P T (mkF m pc Ls (.int n :: S)) := by
  subst hp; obtain ⟨locs, X, N, E, eT, hx, hby, hml, hZ, hown⟩ := K
  obtain ⟨T', h', cA, X', e', E', A, st⟩ := newP X hx hZ w eT (g := mkF m pc Ls (.int n :: S)) rfl (hb hby hd) rfl hn hcap hb8 hc hl
  obtain ⟨t, st2, q⟩ := r T' h' _ cA rfl ⟨_, X', N, ext_tr E E', e', hx, hby, hml, hZ, hown⟩ E' (Arv.new A hn)
  exact ⟨t, st _ st2, q⟩
theorem r_init (K : St Z own bs mL p l e R s m args below meth c T h cells slots) {index W : Nat} {a : Addr} (w1 : (Jvm.Cond.methodLink own index Lib.objectInit).before a0 Z = true) (w2 : (Jvm.Cond.instanceMethod Lib.objectInit).before a0 Z = true) (w3 : (Jvm.Cond.code Lib.objectInit object_method_1_code 1 none).before a0 Z = true) (hsz : Ls.size = mL) (hd : decode bs pc = .ok (.invokespecial index, 3)) (hp : pc + 3 = pc')
    (hf : 1 ≤ R.frames) (hW : (S.map fun v => v.category).sum ≤ W) (hl : W + 12 ≤ R.locals) (r : ∀ T', St Z own bs mL p l e R s m args below meth c T' h cells slots → Run p e below P T' (mkF m pc' Ls S)) : Run p e below P T (mkF m pc Ls (.ref a :: S)) := by
  subst hp; obtain ⟨locs, X, N, E, eT, hx, hby, hml, hZ, hown⟩ := K
  obtain ⟨T', X', e', st⟩ := initO X hx hZ hown w1 w2 w3 eT (g := mkF m pc Ls (.ref a :: S)) rfl (by rw [hml]; exact hsz) rfl (hb hby hd) hf (W := W) (by show 2 * 0 + _ ≤ _; omega) hl
  obtain ⟨t, st2, q⟩ := r T' ⟨_, X', N, E, e', hx, hby, hml, hZ, hown⟩
  exact ⟨t, st _ st2, q⟩
theorem r_static (K : St Z own bs mL p l e R s m args below meth c T h cells slots) {index : Nat} {bs' : ByteArray} {mL' : Nat} {argsL rest : List Value} {W : Nat} {ps : List FieldType} {rt : Option FieldType} (M : Con l y bs' mL' ret [] rm Z argsL.toArray h Q)
    (w1 : (Jvm.Cond.methodLink own index y).before a0 Z = true) (w2 : (Jvm.Cond.static y).before a0 Z = true) (w3 : (Jvm.Cond.initialized y.cls).before a0 Z = true) (w4 : (Jvm.Cond.code y bs' mL' ret).before a0 Z = true) (hy : y.cls ≠ "java/lang/invoke/MethodHandle" ∧ y.cls ≠ "java/lang/invoke/VarHandle")
    (pd : parseMethodDescriptor y.desc = some ⟨ps, rt⟩) (hlen : argsL.length = ps.length) (hS : S = argsL.reverse ++ rest) (hsz : Ls.size = mL) (hW : (rest.map fun v => v.category).sum ≤ W) (hf : rm.frames + 1 ≤ R.frames) (hl : W + (mL' + 11) + rm.locals ≤ R.locals) (hc : cells + rm.cells ≤ R.cells) (hs : slots + rm.slots ≤ R.slots)
    (hd : decode bs pc = .ok (.invokestatic index, 3)) (hp : pc + 3 = pc')
    (r : ∀ v T' h', St Z own bs mL p l e R s m args below meth c T' h' (cells + rm.cells) (slots + rm.slots) → Q v h' → Run p e below P T' (mkF m pc' Ls (pu v rest))) : Run p e below P T (mkF m pc Ls S) := by
  subst hp hS; obtain ⟨locs, X, N, E, eT, hx, hby, hml, hZ, hown⟩ := K
  obtain ⟨v, vm₁, ⟨T', L', k', n'⟩, -, X', ⟨Lc, hQ, l1, y1, z1⟩, st⟩ := Jvm.LawKit.callS X hx (y := y) hown (mvT hZ w1) (mvT hZ w2) (mvT hZ w3) (mvT hZ w4) hy (backOf (W := W) (as' := argsL.toArray) (h := h) (Q := fun v h L => Q v h ∧ Fr Z.heap.size L ∧ Ext Z.heap h) M hZ w4 w3 hf hl) (g := mkF m pc Ls (argsL.reverse ++ rest)) rfl (by rw [hml]; exact hsz) (argsL := argsL) (rest := rest) (lenOf pd hlen) rfl (by show 2 * 0 + _ ≤ _; omega) (hb hby hd) (fun _ _ => ⟨rfl, eT, hc, hs⟩)
  dsimp only [Pt.U, Pt.locs, Pt.cells, Pt.slots] at X' l1 y1 z1 st hQ
  subst l1 y1 z1
  obtain ⟨t, st2, q⟩ := r v T' T'.heap ⟨_, X', N.app hQ.2.1, hQ.2.2, rfl, hx, hby, hml, hZ, hown⟩ hQ.1
  refine ⟨t, st _ ?_, q⟩
  cases v <;> exact st2
theorem r_special (K : St Z own bs mL p l e R s m args below meth c T h cells slots) {index : Nat} {bs' : ByteArray} {mL' : Nat} {a : Addr} {argsL rest : List Value} {W : Nat} {ps : List FieldType} {rt : Option FieldType} (M : Con l y bs' mL' none [] rm Z (Value.ref a :: argsL).toArray h Q) (hy1 : y.name = "<init>")
    (w1 : (Jvm.Cond.methodLink own index y).before a0 Z = true) (w2 : (Jvm.Cond.instanceMethod y).before a0 Z = true) (w3 : (Jvm.Cond.initialized y.cls).before a0 Z = true) (w4 : (Jvm.Cond.code y bs' mL' none).before a0 Z = true) (hy : y.cls ≠ "java/lang/invoke/MethodHandle" ∧ y.cls ≠ "java/lang/invoke/VarHandle")
    (pd : parseMethodDescriptor y.desc = some ⟨ps, rt⟩) (hlen : argsL.length = ps.length) (hS : S = argsL.reverse ++ .ref a :: rest) (hsz : Ls.size = mL) (hW : (rest.map fun v => v.category).sum ≤ W) (hf : rm.frames + 1 ≤ R.frames) (hl : W + (mL' + 11) + rm.locals ≤ R.locals) (hc : cells + rm.cells ≤ R.cells) (hs : slots + rm.slots ≤ R.slots)
    (hd : decode bs pc = .ok (.invokespecial index, 3)) (hp : pc + 3 = pc')
    (r : ∀ v T' h', St Z own bs mL p l e R s m args below meth c T' h' (cells + rm.cells) (slots + rm.slots) → Q v h' → Run p e below P T' (mkF m pc' Ls (pu v rest))) : Run p e below P T (mkF m pc Ls S) := by
  subst hp hS; obtain ⟨locs, X, N, E, eT, hx, hby, hml, hZ, hown⟩ := K
  obtain ⟨v, vm₁, ⟨T', L', k', n'⟩, -, X', ⟨Lc, hQ, l1, y1, z1⟩, st⟩ := X.specialBack hx (y := y) hy1 hown (mvT hZ w1) (mvT hZ w2) (mvT hZ w4) hy (backOf (W := W) (as' := (Value.ref a :: argsL).toArray) (h := h) (Q := fun v h L => Q v h ∧ Fr Z.heap.size L ∧ Ext Z.heap h) M hZ w4 w3 hf hl) (g := mkF m pc Ls (argsL.reverse ++ .ref a :: rest)) rfl (by rw [hml]; exact hsz) (Steps.refl _) (a := a) (argsL := argsL) (rest := rest) (lenOf pd hlen) rfl (by show 2 * 0 + _ ≤ _; omega) (hb hby hd) (fun _ _ => ⟨rfl, eT, hc, hs⟩)
  dsimp only [Pt.U, Pt.locs, Pt.cells, Pt.slots] at X' l1 y1 z1 st hQ
  subst l1 y1 z1
  obtain ⟨t, st2, q⟩ := r v T' T'.heap ⟨_, X', N.app hQ.2.1, hQ.2.2, rfl, hx, hby, hml, hZ, hown⟩ hQ.1
  refine ⟨t, st.trans ?_, q⟩
  cases v <;> exact st2
theorem r_virtual (K : St Z own bs mL p l e R s m args below meth c T h cells slots) {index : Nat} {C : String} {bs' : ByteArray} {mL' : Nat} {a : Addr} {argsL rest : List Value} {W : Nat} {ps : List FieldType} {rt : Option FieldType} (M : Con l y bs' mL' ret [] rm Z (Value.ref a :: argsL).toArray h Q) (E0 : Exa Z h a C)
    (w1 : (Jvm.Cond.methodLink own index y).before a0 Z = true) (wd : (Jvm.Cond.declares y).before a0 Z = true) (wse : (Jvm.Cond.selects C y y).before a0 Z = true) (w2 : (Jvm.Cond.instanceMethod y).before a0 Z = true) (w3 : (Jvm.Cond.initialized y.cls).before a0 Z = true) (w4 : (Jvm.Cond.code y bs' mL' ret).before a0 Z = true) (hy : y.cls ≠ "java/lang/invoke/MethodHandle" ∧ y.cls ≠ "java/lang/invoke/VarHandle")
    (pd : parseMethodDescriptor y.desc = some ⟨ps, rt⟩) (hlen : argsL.length = ps.length) (hS : S = argsL.reverse ++ .ref a :: rest) (hsz : Ls.size = mL) (hW : (rest.map fun v => v.category).sum ≤ W) (hf : rm.frames + 1 ≤ R.frames) (hl : W + (mL' + 11) + rm.locals ≤ R.locals) (hc : cells + rm.cells ≤ R.cells) (hs : slots + rm.slots ≤ R.slots)
    (hd : decode bs pc = .ok (.invokevirtual index, 3)) (hp : pc + 3 = pc')
    (r : ∀ v T' h', St Z own bs mL p l e R s m args below meth c T' h' (cells + rm.cells) (slots + rm.slots) → Q v h' → Run p e below P T' (mkF m pc' Ls (pu v rest))) : Run p e below P T (mkF m pc Ls S) := by
  subst hp hS; obtain ⟨locs, X, N, E, eT, hx, hby, hml, hZ, hown⟩ := K
  obtain ⟨cq, kq, qa, qb, qc⟩ := isOf (s := s) (T := T) hZ eT E0
  obtain ⟨v, vm₁, ⟨T', L', k', n'⟩, -, X', ⟨Lc, hQ, l1, y1, z1⟩, st⟩ := X.virtualBack hx (y := y) (z := y) hown (mvT hZ w1) (mvT hZ wd) (notFace_of_selects (args := #[]) (mvT hZ wse)) (mvT hZ wse) (mvT hZ w2) hy (backOf (W := W) (as' := (Value.ref a :: argsL).toArray) (h := h) (Q := fun v h L => Q v h ∧ Fr Z.heap.size L ∧ Ext Z.heap h) M hZ w4 w3 hf hl) qa qc (g := mkF m pc Ls (argsL.reverse ++ .ref a :: rest)) rfl (by rw [hml]; exact hsz) (Steps.refl _) (argsL := argsL) (rest := rest) (lenOf pd hlen) rfl (by show 2 * 0 + _ ≤ _; omega) (hb hby hd) (fun _ _ => ⟨rfl, eT, hc, hs⟩)
  dsimp only [Pt.U, Pt.locs, Pt.cells, Pt.slots] at X' l1 y1 z1 st hQ
  subst l1 y1 z1
  obtain ⟨t, st2, q⟩ := r v T' T'.heap ⟨_, X', N.app hQ.2.1, hQ.2.2, rfl, hx, hby, hml, hZ, hown⟩ hQ.1
  refine ⟨t, st.trans ?_, q⟩
  cases v <;> exact st2
theorem r_alen (K : St Z own bs mL p l e R s m args below meth c T h cells slots) {a : Addr} {k : ClassId} {ty : FieldType} {z : Int32} {vs : List Value} {dv : Value} (A : Arv Z h a k ty z vs dv) (hd : decode bs pc = .ok (.arraylength, 1)) (hp : pc + 1 = pc') (r : Run p e below P T (mkF m pc' Ls (.int z :: S))) : Run p e below P T (mkF m pc Ls (.ref a :: S)) := by
  subst hp; obtain ⟨locs, X, N, E, eT, hx, hby, hml, hZ, hown⟩ := K
  obtain ⟨cl, Ar, -, Sz, Nn, -, -⟩ := A
  obtain ⟨t, st2, q⟩ := r
  refine ⟨t, X.arraylength hx (cell := cl) (by rw [eT]; exact Ar.1) (State.isArrayOf_alike hZ.alike Ar.2.1) (g := mkF m pc Ls (.ref a :: S)) rfl (rest := S) rfl (hb hby hd) _ ?_, q⟩
  rw [len_of Sz Nn]; exact st2
theorem r_iaload (K : St Z own bs mL p l e R s m args below meth c T h cells slots) {a : Addr} {k : ClassId} {z j : Int32} {vs : List Value} {dv v : Value} (A : Arv Z h a k .int z vs dv) (hj : ¬ j < 0 ∧ j < z) (hv : vs.getD j.toNatClampNeg dv = v) (hd : decode bs pc = .ok (.iaload, 1)) (hp : pc + 1 = pc') (r : Run p e below P T (mkF m pc' Ls (v :: S))) : Run p e below P T (mkF m pc Ls (.int j :: .ref a :: S)) := by
  subst hp; obtain ⟨locs, X, N, E, eT, hx, hby, hml, hZ, hown⟩ := K
  obtain ⟨cl, Ar, -, Sz, Nn, H, -⟩ := A
  have hin := inb_of Sz hj
  obtain ⟨t, st2, q⟩ := r
  exact ⟨t, X.iaload hx (cell := cl) (j := j) (v := v) (by rw [eT]; exact Ar.1) (State.isArrayOf_alike hZ.alike Ar.2.1) Ar.2.2 hin (H.at hin hv) (g := mkF m pc Ls (.int j :: .ref a :: S)) rfl rfl (hb hby hd) _ st2, q⟩
theorem r_iastore (K : St Z own bs mL p l e R s m args below meth c T h cells slots) {a : Addr} {k : ClassId} {z j x : Int32} {vs : List Value} {dv : Value} {i : Nat} (A : Arv Z h a k .int z vs dv) (g : Z.heap.size ≤ a) (hj : ¬ j < 0 ∧ j < z) (hi : j.toNatClampNeg = i) (hl : i < vs.length) (hd : decode bs pc = .ok (.iastore, 1)) (hp : pc + 1 = pc')
    (r : ∀ T' h', St Z own bs mL p l e R s m args below meth c T' h' cells slots → Wr h h' a j.toNatClampNeg (.int x) → Arv Z h' a k .int z (vs.set i (.int x)) dv → Run p e below P T' (mkF m pc' Ls S)) : Run p e below P T (mkF m pc Ls (.int x :: .int j :: .ref a :: S)) := by
  subst hp; obtain ⟨locs, X, N, E, eT, hx, hby, hml, hZ, hown⟩ := K
  obtain ⟨cl, Ar, q1, Sz, Nn, H, G⟩ := A
  have hin := inb_of Sz hj
  obtain ⟨T', h', X', e', W, st⟩ := stI X hx hZ eT Ar hin (x := x) (g := mkF m pc Ls (.int x :: .int j :: .ref a :: S)) rfl rfl (hb hby hd)
  obtain ⟨t, st2, q⟩ := r T' h' ⟨_, X', fr_snoc N g, old_wr E W g, e', hx, hby, hml, hZ, hown⟩ W (Arv.set Ar q1 Sz Nn H G rfl W i hi hl)
  exact ⟨t, st _ st2, q⟩
theorem r_copy (K : St Z own bs mL p l e R s m args below meth c T h cells slots) {index W : Nat} {a b : Addr} {k k' : ClassId} {ty : FieldType} {z z' sp dp nn : Int32} {vs vd us : List Value} {dv dd : Value}
    (w1 : (Jvm.Cond.methodLink own index Jvm.Stand.acN).before a0 Z = true) (w2 : (Jvm.Cond.native Jvm.Stand.acN).before a0 Z = true) (w3 : (Jvm.Cond.static Jvm.Stand.acN).before a0 Z = true) (w4 : (Jvm.Cond.initialized "java/lang/System").before a0 Z = true)
    (A : Arv Z h a k ty z vs dv) (B : Arv Z h b k' ty z' vd dd) (hty : refKind ty = false) (h1 : ¬ sp < 0) (h2 : ¬ dp < 0) (h3 : ¬ nn < 0) (h4 : sp.toNatClampNeg + nn.toNatClampNeg ≤ z.toNatClampNeg) (h5 : dp.toNatClampNeg + nn.toNatClampNeg ≤ z'.toNatClampNeg)
    (hus : us = (List.range nn.toNatClampNeg).map fun i => vs.getD (sp.toNatClampNeg + i) dv) (hl : dp.toNatClampNeg + nn.toNatClampNeg ≤ vd.length) (ge : Z.heap.size ≤ b) (hsz : Ls.size = mL) (hd : decode bs pc = .ok (.invokestatic index, 3)) (hp : pc + 3 = pc')
    (hf : 1 ≤ R.frames) (hW : (S.map fun v => v.category).sum ≤ W) (hlo : W + (nativeFrameWords "java/lang/System" "arraycopy" 5 + 11) ≤ R.locals)
    (r : ∀ T' h', St Z own bs mL p l e R s m args below meth c T' h' cells slots → Keep h h' [b] → Arv Z h' b k' ty z' (vd.take dp.toNatClampNeg ++ us ++ vd.drop (dp.toNatClampNeg + nn.toNatClampNeg)) dd → Run p e below P T' (mkF m pc' Ls S)) : Run p e below P T (mkF m pc Ls (.int nn :: .int dp :: .ref b :: .int sp :: .ref a :: S)) := by
  subst hp; obtain ⟨locs, X, N, E, eT, hx, hby, hml, hZ, hown⟩ := K
  obtain ⟨T', h', L', X', e', N', Kp, B', st⟩ := cpA X hx hZ hown w1 w2 w3 w4 eT A B (Or.inl ⟨rfl, hty⟩) h1 h2 h3 h4 h5 hus hl N ge (g := mkF m pc Ls (.int nn :: .int dp :: .ref b :: .int sp :: .ref a :: S)) rfl (by rw [hml]; exact hsz) rfl (hb hby hd) hf (W := W) (by show 2 * 0 + _ ≤ _; omega) hlo
  obtain ⟨t, st2, q⟩ := r T' h' ⟨_, X', N', (Old.keep (Z := Z) (n0 := Z.heap.size) ⟨rfl, E⟩ Kp (allS ge all0)).2, e', hx, hby, hml, hZ, hown⟩ Kp B'
  exact ⟨t, st _ st2, q⟩
theorem r_caload (K : St Z own bs mL p l e R s m args below meth c T h cells slots) {a : Addr} {k : ClassId} {z j : Int32} {vs : List Value} {dv v : Value} (A : Arv Z h a k .char z vs dv) (hj : ¬ j < 0 ∧ j < z) (hv : vs.getD j.toNatClampNeg dv = v) (hd : decode bs pc = .ok (.caload, 1)) (hp : pc + 1 = pc') (r : Run p e below P T (mkF m pc' Ls (v :: S))) : Run p e below P T (mkF m pc Ls (.int j :: .ref a :: S)) := by
  subst hp; obtain ⟨locs, X, N, E, eT, hx, hby, hml, hZ, hown⟩ := K
  obtain ⟨cl, Ar, -, Sz, Nn, H, -⟩ := A
  have hin := inb_of Sz hj
  obtain ⟨t, st2, q⟩ := r
  exact ⟨t, X.caload hx (cell := cl) (j := j) (v := v) (by rw [eT]; exact Ar.1) (State.isArrayOf_alike hZ.alike Ar.2.1) Ar.2.2 hin (H.at hin hv) (g := mkF m pc Ls (.int j :: .ref a :: S)) rfl rfl (hb hby hd) _ st2, q⟩
theorem r_baload (K : St Z own bs mL p l e R s m args below meth c T h cells slots) {a : Addr} {k : ClassId} {z j : Int32} {vs : List Value} {dv v : Value} (A : Arv Z h a k .byte z vs dv) (hj : ¬ j < 0 ∧ j < z) (hv : vs.getD j.toNatClampNeg dv = v) (hd : decode bs pc = .ok (.baload, 1)) (hp : pc + 1 = pc') (r : Run p e below P T (mkF m pc' Ls (v :: S))) : Run p e below P T (mkF m pc Ls (.int j :: .ref a :: S)) := by
  subst hp; obtain ⟨locs, X, N, E, eT, hx, hby, hml, hZ, hown⟩ := K
  obtain ⟨cl, Ar, -, Sz, Nn, H, -⟩ := A
  have hin := inb_of Sz hj
  obtain ⟨t, st2, q⟩ := r
  exact ⟨t, X.baloadBytes hx (cell := cl) (j := j) (v := v) (by rw [eT]; exact Ar.1) (State.isArrayOf_alike hZ.alike Ar.2.1) Ar.2.2 hin (H.at hin hv) (g := mkF m pc Ls (.int j :: .ref a :: S)) rfl rfl (hb hby hd) _ st2, q⟩
theorem r_castore (K : St Z own bs mL p l e R s m args below meth c T h cells slots) {a : Addr} {k : ClassId} {z j x : Int32} {vs : List Value} {dv : Value} {i : Nat} (A : Arv Z h a k .char z vs dv) (g : Z.heap.size ≤ a) (hj : ¬ j < 0 ∧ j < z) (hi : j.toNatClampNeg = i) (hl : i < vs.length) (hd : decode bs pc = .ok (.castore, 1)) (hp : pc + 1 = pc')
    (r : ∀ T' h', St Z own bs mL p l e R s m args below meth c T' h' cells slots → Wr h h' a j.toNatClampNeg (.int (nar .char x)) → Arv Z h' a k .char z (vs.set i (.int (nar .char x))) dv → Run p e below P T' (mkF m pc' Ls S)) : Run p e below P T (mkF m pc Ls (.int x :: .int j :: .ref a :: S)) := by
  subst hp; obtain ⟨locs, X, N, E, eT, hx, hby, hml, hZ, hown⟩ := K
  obtain ⟨cl, Ar, q1, Sz, Nn, H, G⟩ := A
  have hin := inb_of Sz hj
  obtain ⟨T', h', X', e', W, st⟩ := stC X hx hZ eT Ar hin (x := x) (g := mkF m pc Ls (.int x :: .int j :: .ref a :: S)) rfl rfl (hb hby hd)
  obtain ⟨t, st2, q⟩ := r T' h' ⟨_, X', fr_snoc N g, old_wr E W g, e', hx, hby, hml, hZ, hown⟩ W (Arv.set Ar q1 Sz Nn H G (fits_nar_char _) W i hi hl)
  exact ⟨t, st _ st2, q⟩
theorem r_bastore (K : St Z own bs mL p l e R s m args below meth c T h cells slots) {a : Addr} {k : ClassId} {z j x : Int32} {vs : List Value} {dv : Value} {i : Nat} (A : Arv Z h a k .byte z vs dv) (g : Z.heap.size ≤ a) (hj : ¬ j < 0 ∧ j < z) (hi : j.toNatClampNeg = i) (hl : i < vs.length) (hd : decode bs pc = .ok (.bastore, 1)) (hp : pc + 1 = pc')
    (r : ∀ T' h', St Z own bs mL p l e R s m args below meth c T' h' cells slots → Wr h h' a j.toNatClampNeg (.int (nar .byte x)) → Arv Z h' a k .byte z (vs.set i (.int (nar .byte x))) dv → Run p e below P T' (mkF m pc' Ls S)) : Run p e below P T (mkF m pc Ls (.int x :: .int j :: .ref a :: S)) := by
  subst hp; obtain ⟨locs, X, N, E, eT, hx, hby, hml, hZ, hown⟩ := K
  obtain ⟨cl, Ar, q1, Sz, Nn, H, G⟩ := A
  have hin := inb_of Sz hj
  obtain ⟨T', h', X', e', W, st⟩ := stB X hx hZ eT Ar hin (x := x) (g := mkF m pc Ls (.int x :: .int j :: .ref a :: S)) rfl rfl (hb hby hd)
  obtain ⟨t, st2, q⟩ := r T' h' ⟨_, X', fr_snoc N g, old_wr E W g, e', hx, hby, hml, hZ, hown⟩ W (Arv.set Ar q1 Sz Nn H G (fits_nar_byte _) W i hi hl)
  exact ⟨t, st _ st2, q⟩
theorem r_ldcI (K : St Z own bs mL p l e R s m args below meth c T h cells slots) {index : Nat} {v : Int32} (w : (Jvm.Cond.constant own index v).before a0 Z = true) (hd : decode bs pc = .ok (.ldc index, 2)) (hp : pc + 2 = pc') (r : Run p e below P T (mkF m pc' Ls (.int v :: S))) : Run p e below P T (mkF m pc Ls S) := by
  subst hp; obtain ⟨locs, X, N, E, eT, hx, hby, hml, hZ, hown⟩ := K
  obtain ⟨t, st2, q⟩ := r
  exact ⟨t, X.ldcI hx hown (mvT hZ w) (g := mkF m pc Ls S) rfl (hb hby hd) st2, q⟩
theorem r_instY (K : St Z own bs mL p l e R s m args below meth c T h cells slots) {C : String} {index : Nat} {a : Addr} (w : (Jvm.Cond.classLink own index C).before a0 Z = true) (F : Ins Z h a C true) (hd : decode bs pc = .ok (.instanceof index, 3)) (hp : pc + 3 = pc') (r : ∀ T', St Z own bs mL p l e R s m args below meth c T' h cells slots → Run p e below P T' (mkF m pc' Ls (.int 1 :: S))) : Run p e below P T (mkF m pc Ls (.ref a :: S)) := by
  subst hp; obtain ⟨locs, X, N, E, eT, hx, hby, hml, hZ, hown⟩ := K
  obtain ⟨T', X', e', st⟩ := instY X hx hZ hown w eT F (g := mkF m pc Ls (.ref a :: S)) rfl rfl (hb hby hd)
  obtain ⟨t, st2, q⟩ := r T' ⟨locs, X', N, E, e', hx, hby, hml, hZ, hown⟩
  exact ⟨t, st _ st2, q⟩
theorem r_castY (K : St Z own bs mL p l e R s m args below meth c T h cells slots) {C : String} {index : Nat} {a : Addr} (w : (Jvm.Cond.classLink own index C).before a0 Z = true) (F : Ins Z h a C true) (hd : decode bs pc = .ok (.checkcast index, 3)) (hp : pc + 3 = pc') (r : ∀ T', St Z own bs mL p l e R s m args below meth c T' h cells slots → Run p e below P T' (mkF m pc' Ls (.ref a :: S))) : Run p e below P T (mkF m pc Ls (.ref a :: S)) := by
  subst hp; obtain ⟨locs, X, N, E, eT, hx, hby, hml, hZ, hown⟩ := K
  obtain ⟨T', X', e', st⟩ := castY X hx hZ hown w eT F (g := mkF m pc Ls (.ref a :: S)) rfl rfl (hb hby hd)
  obtain ⟨t, st2, q⟩ := r T' ⟨locs, X', N, E, e', hx, hby, hml, hZ, hown⟩
  exact ⟨t, st _ st2, q⟩
theorem r_instNo (K : St Z own bs mL p l e R s m args below meth c T h cells slots) {C D : String} {index : Nat} {a : Addr} (w : (Jvm.Cond.classLink own index C).before a0 Z = true) (E0 : Exa Z h a D) (F : ∃ c t, Z.vm.findClass D = some c ∧ Z.vm.findClass C = some t ∧ Z.vm.assignable c t = false) (hd : decode bs pc = .ok (.instanceof index, 3)) (hp : pc + 3 = pc') (r : ∀ T', St Z own bs mL p l e R s m args below meth c T' h cells slots → Run p e below P T' (mkF m pc' Ls (.int 0 :: S))) : Run p e below P T (mkF m pc Ls (.ref a :: S)) := by
  subst hp; obtain ⟨locs, X, N, E, eT, hx, hby, hml, hZ, hown⟩ := K
  obtain ⟨T', X', e', st⟩ := instNo X hx hZ hown w eT E0 F (g := mkF m pc Ls (.ref a :: S)) rfl rfl (hb hby hd)
  obtain ⟨t, st2, q⟩ := r T' ⟨locs, X', N, E, e', hx, hby, hml, hZ, hown⟩
  exact ⟨t, st _ st2, q⟩
theorem r_instNull (K : St Z own bs mL p l e R s m args below meth c T h cells slots) {index : Nat} (hd : decode bs pc = .ok (.instanceof index, 3)) (hp : pc + 3 = pc') (r : Run p e below P T (mkF m pc' Ls (.int 0 :: S))) : Run p e below P T (mkF m pc Ls (.null :: S)) := by
  subst hp; obtain ⟨locs, X, N, E, eT, hx, hby, hml, hZ, hown⟩ := K
  obtain ⟨t, st2, q⟩ := r
  exact ⟨t, X.instanceofNull hx (g := mkF m pc Ls (.null :: S)) rfl rfl (hb hby hd) _ st2, q⟩
theorem r_acmpNe (K : St Z own bs mL p l e R s m args below meth c T h cells slots) {a b : Addr} {o : Int} {pc1 pc2 : Nat} (hd : decode bs pc = .ok (.if_acmp .ne o, 3)) (h1 : pc + 3 = pc1) (ho : 0 ≤ (pc : Int) + o) (h2 : ((pc : Int) + o).toNat = pc2)
    (r2 : a ≠ b → Run p e below P T (mkF m pc2 Ls S)) (r1 : a = b → Run p e below P T (mkF m pc1 Ls S)) : Run p e below P T (mkF m pc Ls (.ref b :: .ref a :: S)) := by
  subst h1
  by_cases hc : a = b
  · obtain ⟨t, st, q⟩ := r1 hc; exact ⟨t, XS.acmpNo K.here K.hx rfl (hb K.bts hd) rfl (by simp [if_acmp.holds, hc]) st, q⟩
  · obtain ⟨t, st, q⟩ := r2 hc; exact ⟨t, XS.acmpYes K.here K.hx rfl (pc0 := pc) (pc' := pc2) rfl (hb K.bts hd) rfl (by simp [if_acmp.holds, hc]) ho h2 st, q⟩
end Kit
section KitW
/-- what goes along in a walk that may have loaded String constants: since the body's start s; vm0: the tables at hand -/
def Inv (Z : State) (EL : List (String × Nat)) (s : State) (vm0 : Vm) (h : Heap) : Prop := (∃ k0, s.Since vm0 k0 ∧ k0 ≤ h.size) ∧ CHr Z EL s.vm s.heap vm0 h
def FinW (Z : State) (EL : List (String × Nat)) (s : State) (below : List Frame) (k n : Nat) (Q : Option Value → Heap → Prop) (t : State) : Prop :=
  ∃ o, t.status = .running ∧ Ended t below o ∧ ∃ v L, o = .returned v ∧ (Q v t.heap ∧ Fr Z.heap.size L ∧ Ext Z.heap t.heap) ∧ CHr Z EL s.vm s.heap t.vm t.heap ∧ ReturnedEndW s o t L k n
def ConW (l : Launch) (y : MethodName) (bs : ByteArray) (mL : Nat) (ret : Option FieldType) (ws : List Jvm.Cond) (rm : Room) (Z : State) (EL : List (String × Nat)) (as : Array Value) (h0 : Heap) (Q : Option Value → Heap → Prop) : Prop :=
  MetFree l y (head1 (Jvm.Cond.code y bs mL ret :: ws) rm) (fun a U => a = as ∧ Z.Warmed39 U.vm ∧ U.heap = h0 ∧ CHv Z EL U.vm h0) (fun _ _ _ _ _ => True) (fun _ U o U' => ∃ v L, o = .returned v ∧ (Q v U'.heap ∧ Fr Z.heap.size L ∧ Ext Z.heap U'.heap) ∧ CHr Z EL U.vm U.heap U'.vm U'.heap ∧ ReturnedEndW U o U' L rm.cells rm.slots)
variable {Z : State} {a0 : Array Value} {own : String} {bs : ByteArray} {mL : Nat} {p : Program} {l : Launch} {e : Env} {R : Room} {s : State} {m : MethodId} {args : Array Value} {below : List Frame} {meth : Method} {c : Code} {T : State} {h h' : Heap} {cells slots : Nat} {P : State → Prop} {pc pc' : Nat} {Ls : Array Slot} {S : List Value} {y : MethodName} {ret : Option FieldType} {rm : Room} {ws : List Jvm.Cond} {as : Array Value} {h0 : Heap} {Q : Option Value → Heap → Prop} {kc kn : Nat} {EL : List (String × Nat)} {vm0 : Vm}
theorem Inv.ch (I : Inv Z EL s vm0 h) : CHv Z EL vm0 h := I.2.1
theorem Inv.step (I : Inv Z EL s vm0 h) (C : CHr Z EL vm0 h vm0 h') : Inv Z EL s vm0 h' := by
  obtain ⟨⟨k0, h1, h2⟩, h3⟩ := I
  exact ⟨⟨k0, h1, Nat.le_trans h2 C.2.1⟩, h3.trans C⟩
theorem Inv.ext (I : Inv Z EL s vm0 h) (E : Ext h h') : Inv Z EL s vm0 h' := I.step (CHr.ext E I.ch)
theorem Inv.wr (I : Inv Z EL s vm0 h) {a : Addr} {sl : Nat} {v : Value} (W : Wr h h' a sl v) (F : Safe Z EL vm0 h a) : Inv Z EL s vm0 h' := I.step (CHr.wr W F I.ch)
theorem Inv.keep (I : Inv Z EL s vm0 h) {ws : List Addr} (Kp : Keep h h' ws) (F : ∀ x ∈ ws, Safe Z EL vm0 h x) : Inv Z EL s vm0 h' := I.step (CHr.keep Kp F I.ch)
theorem Inv.fresh (I : Inv Z EL s vm0 h) (E : Ext h h') {a : Addr} (g : h.size ≤ a) : Safe Z EL vm0 h' a := Safe.ext E I.ch (Safe.new g)
theorem St.al (K : St Z own bs mL p l e R (s.setVm vm0) m args below meth c T h cells slots) : Z.vm.Alike vm0 := by obtain ⟨_, -, -, -, -, -, -, -, q, -⟩ := K; exact State.Warmed39.alike (show Z.Warmed39 vm0 from q)
theorem con_introW (hpn : plainFor y = true) (hx0 : Ext Z.heap h0)
    (body : ∀ (p : Program) (e : Env) (s : State) (m : MethodId) (below : List Frame) (meth : Method) (c : Code) (T : State), St Z y.cls bs mL p l e rm (s.setVm s.vm) m as below meth c T h0 0 0 → Inv Z EL s s.vm h0 → meth.sig.returnType = ret → meth.locks = false → meth.name = y.name →
      Run p e below (FinW Z EL s below rm.cells rm.slots Q) T (entryFrame m as mL)) : ConW l y bs mL ret ws rm Z EL as h0 Q := by
  refine MetFree.of_bodySF hpn hisR ?_
  intro p e s m args below meth c s₁ Bd hml0 hP hK
  obtain ⟨rfl, hZ, hh, hC⟩ := hP
  have hnm := (name_of_methodNamed Bd.named Bd.method).1
  have X0 : Stand p l e rm s m args below meth c s₁ [] 0 0 := Stand.of_body Bd
  have e0 : s₁.heap = h0 := by rw [← hh, Bd.state]; rfl
  have I0 : Inv Z EL s s.vm h0 := ⟨⟨0, (State.WarmedH.refl s).since 0, Nat.zero_le _⟩, by rw [hh]; exact CHr.refl hC⟩
  obtain ⟨t, st, o, h1, h2, h3⟩ := body p e s m below meth c s₁ ⟨[], X0, Fr.nil _, hx0, e0, Bd.exec, Bd.bytes, hml0, hZ, findClass_of_methodNamed Bd.named⟩ I0 Bd.returns Bd.notSynchronized hnm
  exact ⟨t, o, st, h1, h2, h3⟩
theorem w_ret (K : St Z own bs mL p l e R (s.setVm vm0) m args below meth c T h cells slots) (I : Inv Z EL s vm0 h) (hEL : EW Z a0 EL) {t : FieldType} {w : Value} {i : Instr} (hret : meth.sig.returnType = some t) (hlk : meth.locks = false) (hn : narrow t w = w)
    (hi : (i = .ireturn ∧ (t = .int ∨ t = .boolean ∨ t = .byte ∨ t = .char ∨ t = .short) ∧ ∃ z, w = .int z) ∨ (i = .lreturn ∧ t = .long ∧ ∃ z, w = .long z) ∨ (i = .dreturn ∧ t = .double ∧ ∃ z, w = .double z) ∨ (i = .freturn ∧ t = .float ∧ ∃ z, w = .float z) ∨ (i = .areturn ∧ t.isReference = true ∧ w.isRef = true))
    (hd : decode bs pc = .ok (i, 1)) (hc : cells ≤ kc) (hs : slots ≤ kn) (hq : Q (some w) h) : Run p e below (FinW Z EL s below kc kn Q) T (mkF m pc Ls (w :: S)) := by
  obtain ⟨locs, X, N, E, eT, hx, hby, hml, hZ, hown⟩ := K
  obtain ⟨⟨k0, i1, i2⟩, i3⟩ := I
  have X := X.more hc hs
  obtain ⟨fs, hr, hrun, hended, hend⟩ := X.leaveW i1 (by rw [eT]; exact i2) (v := some w) (fun q => by rw [hret] at q; cases q)
  refine ⟨_, retOut X hx hret hn hi (hb hby hd) hr, _, hrun, hended, _, _, rfl, ⟨eT.symm ▸ hq, N, eT.symm ▸ E⟩, ?_, hend⟩
  subst eT
  have C := i3.trans (CHv.at X hZ hEL i3.1)
  exact C
theorem w_retZ (K : St Z own bs mL p l e R (s.setVm vm0) m args below meth c T h cells slots) (I : Inv Z EL s vm0 h) (hEL : EW Z a0 EL) {z : Int32} (hret : meth.sig.returnType = some .boolean) (hlk : meth.locks = false) (hn : narrow .boolean (.int z) = .int z) (hd : decode bs pc = .ok (.ireturn, 1)) (hc : cells ≤ kc) (hs : slots ≤ kn) (hq : Q (some (.int z)) h) :
    Run p e below (FinW Z EL s below kc kn Q) T (mkF m pc Ls (.int z :: S)) := w_ret K I hEL hret hlk hn (Or.inl ⟨rfl, Or.inr (Or.inl rfl), _, rfl⟩) hd hc hs hq
theorem w_retA (K : St Z own bs mL p l e R (s.setVm vm0) m args below meth c T h cells slots) (I : Inv Z EL s vm0 h) (hEL : EW Z a0 EL) {t : FieldType} {w : Value} (hret : meth.sig.returnType = some t) (hlk : meth.locks = false) (ht : t.isReference = true) (hw : w.isRef = true) (hd : decode bs pc = .ok (.areturn, 1)) (hc : cells ≤ kc) (hs : slots ≤ kn) (hq : Q (some w) h) :
    Run p e below (FinW Z EL s below kc kn Q) T (mkF m pc Ls (w :: S)) := w_ret K I hEL hret hlk (by cases t <;> cases w <;> first | rfl | (simp [FieldType.isReference, Value.isRef] at ht hw)) (Or.inr (Or.inr (Or.inr (Or.inr ⟨rfl, ht, hw⟩)))) hd hc hs hq
theorem w_retV (K : St Z own bs mL p l e R (s.setVm vm0) m args below meth c T h cells slots) (I : Inv Z EL s vm0 h) (hEL : EW Z a0 EL) (hret : meth.sig.returnType = none) (hlk : meth.locks = false) (hd : decode bs pc = .ok (.return_, 1)) (hc : cells ≤ kc) (hs : slots ≤ kn) (hq : Q none h) :
    Run p e below (FinW Z EL s below kc kn Q) T (mkF m pc Ls []) := by
  obtain ⟨locs, X, N, E, eT, hx, hby, hml, hZ, hown⟩ := K
  obtain ⟨⟨k0, i1, i2⟩, i3⟩ := I
  have X := X.more hc hs
  obtain ⟨fs, hr, hrun, hended, hend⟩ := X.leaveW i1 (by rw [eT]; exact i2) (v := none) (fun _ => rfl)
  refine ⟨_, X.returnOut hx hret (hb hby hd) hr, _, hrun, hended, _, _, rfl, ⟨eT.symm ▸ hq, N, eT.symm ▸ E⟩, ?_, hend⟩
  subst eT
  have C := i3.trans (CHv.at X hZ hEL i3.1)
  exact C
theorem w_ldc (K : St Z own bs mL p l e R (s.setVm vm0) m args below meth c T h cells slots) (I : Inv Z EL s vm0 h) (hEL : EW Z a0 EL) {text : String} {index n : Nat} (hmem : (own, index) ∈ EL) (w : (Jvm.Cond.stringLink own index text).before a0 Z = true) (wS : ∀ a ∈ Bundle.stringAtoms, a.before a0 Z = true) {vs : List Value} {z : Int32} (ht : (∀ c ∈ text.toList, c.toNat < 256) ∧ text.toList.map (fun c => Value.int (Jvm.Lit.byteI c.toNat.toUInt16)) = vs) (hz : ¬ z < 0) (hl : z.toNatClampNeg = vs.length)
    (hd : decode bs pc = .ok (.ldc index, 2)) (hp : pc + 2 = pc') (hn : 4 * text.toList.length ≤ n) (hbig : n ≤ 536870912) (hc : cells + 2 ≤ R.cells) (hl' : slots + (n + 4) ≤ R.slots)
    (r : ∀ a T' h' vm1 b k, St Z own bs mL p l e R (s.setVm vm1) m args below meth c T' h' (cells + 2) (slots + (n + 4)) → Inv Z EL s vm1 h' → Ext h h' → CHr Z EL vm0 h vm1 h' → Exa Z h' a "java/lang/String" → Fld Z h' a "java/lang/String" "coder" "B" (.int 0) → Fld Z h' a "java/lang/String" "value" "[B" (.ref b) → Arv Z h' b k .byte z vs (.int 0) → (∀ x, Safe Z EL vm1 h' x → x ≠ a ∧ x ≠ b) → Run p e below P T' (mkF m pc' Ls (.ref a :: S))) : Run p e below P T (mkF m pc Ls S) := by
  subst hp; obtain ⟨locs, X, N, E, eT, hx, hby, hml, hZ, hown⟩ := K
  obtain ⟨⟨k0, i1, i2⟩, i3⟩ := I
  obtain ⟨a, T', h', k1, b, k, X', e', E', s1, s2, s3, s4, A1, A2, A3, A4, -, -, C, -, N', st⟩ := ldcCH X hx (show Z.Warmed39 vm0 from hZ) (show vm0.findClass own = some m.cls from hown) w wS eT i1 i2 hEL hmem i3.1 ht hz hl (g := mkF m pc Ls S) rfl (hb hby hd) hn hbig hc hl'
  obtain ⟨t, st2, q⟩ := r a T' h' T'.vm b k ⟨_, X', N, ext_tr E E', e', hx, hby, hml, s3, s4⟩ ⟨⟨k1, s1, s2⟩, i3.trans C⟩ E' C A1 A2 A3 A4 N'
  exact ⟨t, st _ st2, q⟩
theorem w_ldcO (K : St Z own bs mL p l e R (s.setVm vm0) m args below meth c T h cells slots) (I : Inv Z EL s vm0 h) (hEL : EW Z a0 EL) {text : String} {index n : Nat} (w : (Jvm.Cond.stringLink own index text).before a0 Z = true) (wS : ∀ a ∈ Bundle.stringAtoms, a.before a0 Z = true)
    (hd : decode bs pc = .ok (.ldc index, 2)) (hp : pc + 2 = pc') (hn : 4 * text.toList.length ≤ n) (hbig : n ≤ 536870912) (hc : cells + 2 ≤ R.cells) (hl' : slots + (n + 4) ≤ R.slots)
    (r : ∀ a T' h' vm1, St Z own bs mL p l e R (s.setVm vm1) m args below meth c T' h' (cells + 2) (slots + (n + 4)) → Inv Z EL s vm1 h' → Ext h h' → CHr Z EL vm0 h vm1 h' → Run p e below P T' (mkF m pc' Ls (.ref a :: S))) : Run p e below P T (mkF m pc Ls S) := by
  subst hp; obtain ⟨locs, X, N, E, eT, hx, hby, hml, hZ, hown⟩ := K
  obtain ⟨⟨k0, i1, i2⟩, i3⟩ := I
  obtain ⟨a, T', h', k1, X', e', E', s1, s2, s3, s4, C, -, st⟩ := ldcOH X hx (show Z.Warmed39 vm0 from hZ) (show vm0.findClass own = some m.cls from hown) w wS eT i1 i2 hEL i3.1 (g := mkF m pc Ls S) rfl (hb hby hd) hn hbig hc hl'
  obtain ⟨t, st2, q⟩ := r a T' h' T'.vm ⟨_, X', N, ext_tr E E', e', hx, hby, hml, s3, s4⟩ ⟨⟨k1, s1, s2⟩, i3.trans C⟩ E' C
  exact ⟨t, st _ st2, q⟩
theorem w_static (K : St Z own bs mL p l e R (s.setVm vm0) m args below meth c T h cells slots) (I : Inv Z EL s vm0 h) (hEL : EW Z a0 EL) {index : Nat} {bs' : ByteArray} {mL' : Nat} {argsL rest : List Value} {W : Nat} {ps : List FieldType} {rt : Option FieldType} (M : ConW l y bs' mL' ret [] rm Z EL argsL.toArray h Q)
    (w1 : (Jvm.Cond.methodLink own index y).before a0 Z = true) (w2 : (Jvm.Cond.static y).before a0 Z = true) (w3 : (Jvm.Cond.initialized y.cls).before a0 Z = true) (w4 : (Jvm.Cond.code y bs' mL' ret).before a0 Z = true) (hy : y.cls ≠ "java/lang/invoke/MethodHandle" ∧ y.cls ≠ "java/lang/invoke/VarHandle")
    (pd : parseMethodDescriptor y.desc = some ⟨ps, rt⟩) (hlen : argsL.length = ps.length) (hS : S = argsL.reverse ++ rest) (hsz : Ls.size = mL) (hW : (rest.map fun v => v.category).sum ≤ W) (hf : rm.frames + 1 ≤ R.frames) (hl : W + (mL' + 11) + rm.locals ≤ R.locals) (hc : cells + rm.cells ≤ R.cells) (hs : slots + rm.slots ≤ R.slots)
    (hd : decode bs pc = .ok (.invokestatic index, 3)) (hp : pc + 3 = pc')
    (r : ∀ v T' h' vm1, St Z own bs mL p l e R (s.setVm vm1) m args below meth c T' h' (cells + rm.cells) (slots + rm.slots) → Inv Z EL s vm1 h' → CHr Z EL vm0 h vm1 h' → Q v h' → Run p e below P T' (mkF m pc' Ls (pu v rest))) : Run p e below P T (mkF m pc Ls S) := by
  subst hp hS; obtain ⟨locs, X, N, E, eT, hx, hby, hml, hZ, hown⟩ := K
  obtain ⟨⟨k0, i1, i2⟩, i3⟩ := I
  obtain ⟨v, vm₁, ⟨T', L', k', n'⟩, -, X', hS', hg', ⟨Lc, hQ, l1, y1, z1, C⟩, st⟩ := callSS X hx (y := y) hown (mvT hZ w1) (mvT hZ w2) (mvT hZ w3) (mvT hZ w4) hy (backOfSH (W := W) (as' := argsL.toArray) (h := h) (Q := fun v h L => Q v h ∧ Fr Z.heap.size L ∧ Ext Z.heap h) M (show Z.Warmed39 vm0 from hZ) w4 w3 hf hl hEL i3.1) (g := mkF m pc Ls (argsL.reverse ++ rest)) rfl (by rw [hml]; exact hsz) (argsL := argsL) (rest := rest) (lenOf pd hlen) rfl (by show 2 * 0 + _ ≤ _; omega) (hb hby hd) (fun _ _ => ⟨rfl, eT, hc, hs⟩)
  dsimp only [Pt.U, Pt.locs, Pt.cells, Pt.slots] at X' l1 y1 z1 st hQ C hS' hg'
  subst l1 y1 z1
  obtain ⟨X2, s1, s2, s3⟩ := rebS i1 (n1 := T.heap.size) (by rw [eT]; exact i2) X' hS' hg' hZ hown
  obtain ⟨t, st2, q⟩ := r v T' T'.heap T'.vm ⟨_, X2, N.app hQ.2.1, hQ.2.2, rfl, hx, hby, hml, s2, s3⟩ ⟨⟨_, s1, Nat.le_refl _⟩, i3.trans C⟩ C hQ.1
  refine ⟨t, st.trans ?_, q⟩
  cases v <;> exact st2
theorem w_special (K : St Z own bs mL p l e R (s.setVm vm0) m args below meth c T h cells slots) (I : Inv Z EL s vm0 h) (hEL : EW Z a0 EL) {index : Nat} {bs' : ByteArray} {mL' : Nat} {a : Addr} {argsL rest : List Value} {W : Nat} {ps : List FieldType} {rt : Option FieldType} (M : ConW l y bs' mL' none [] rm Z EL (Value.ref a :: argsL).toArray h Q) (hy1 : y.name = "<init>")
    (w1 : (Jvm.Cond.methodLink own index y).before a0 Z = true) (w2 : (Jvm.Cond.instanceMethod y).before a0 Z = true) (w3 : (Jvm.Cond.initialized y.cls).before a0 Z = true) (w4 : (Jvm.Cond.code y bs' mL' none).before a0 Z = true) (hy : y.cls ≠ "java/lang/invoke/MethodHandle" ∧ y.cls ≠ "java/lang/invoke/VarHandle")
    (pd : parseMethodDescriptor y.desc = some ⟨ps, rt⟩) (hlen : argsL.length = ps.length) (hS : S = argsL.reverse ++ .ref a :: rest) (hsz : Ls.size = mL) (hW : (rest.map fun v => v.category).sum ≤ W) (hf : rm.frames + 1 ≤ R.frames) (hl : W + (mL' + 11) + rm.locals ≤ R.locals) (hc : cells + rm.cells ≤ R.cells) (hs : slots + rm.slots ≤ R.slots)
    (hd : decode bs pc = .ok (.invokespecial index, 3)) (hp : pc + 3 = pc')
    (r : ∀ v T' h' vm1, St Z own bs mL p l e R (s.setVm vm1) m args below meth c T' h' (cells + rm.cells) (slots + rm.slots) → Inv Z EL s vm1 h' → CHr Z EL vm0 h vm1 h' → Q v h' → Run p e below P T' (mkF m pc' Ls (pu v rest))) : Run p e below P T (mkF m pc Ls S) := by
  subst hp hS; obtain ⟨locs, X, N, E, eT, hx, hby, hml, hZ, hown⟩ := K
  obtain ⟨⟨k0, i1, i2⟩, i3⟩ := I
  obtain ⟨v, vm₁, ⟨T', L', k', n'⟩, -, X', hS', hg', ⟨Lc, hQ, l1, y1, z1, C⟩, st⟩ := X.specialBackS hx (y := y) hy1 hown (mvT hZ w1) (mvT hZ w2) (mvT hZ w4) hy (backOfSH (W := W) (as' := (Value.ref a :: argsL).toArray) (h := h) (Q := fun v h L => Q v h ∧ Fr Z.heap.size L ∧ Ext Z.heap h) M (show Z.Warmed39 vm0 from hZ) w4 w3 hf hl hEL i3.1) (g := mkF m pc Ls (argsL.reverse ++ .ref a :: rest)) rfl (by rw [hml]; exact hsz) (Steps.refl _) (a := a) (argsL := argsL) (rest := rest) (lenOf pd hlen) rfl (by show 2 * 0 + _ ≤ _; omega) (hb hby hd) (fun _ _ => ⟨rfl, eT, hc, hs⟩)
  dsimp only [Pt.U, Pt.locs, Pt.cells, Pt.slots] at X' l1 y1 z1 st hQ C hS' hg'
  subst l1 y1 z1
  obtain ⟨X2, s1, s2, s3⟩ := rebS i1 (n1 := T.heap.size) (by rw [eT]; exact i2) X' hS' hg' hZ hown
  obtain ⟨t, st2, q⟩ := r v T' T'.heap T'.vm ⟨_, X2, N.app hQ.2.1, hQ.2.2, rfl, hx, hby, hml, s2, s3⟩ ⟨⟨_, s1, Nat.le_refl _⟩, i3.trans C⟩ C hQ.1
  refine ⟨t, st.trans ?_, q⟩
  cases v <;> exact st2
end KitW
theorem own_ti {n : Nat} (hn : n ≤ 255) : (Int32.ofNat n).toInt = n := Int32.toInt_ofNat_of_lt (by omega)
theorem own_lt {i n : Nat} (h : i < n) (hn : n ≤ 255) : Int32.ofNat i < Int32.ofNat n := by
  rw [Int32.lt_iff_toInt_lt, own_ti (by omega), own_ti hn]; omega
theorem own_nlt {i n : Nat} (h : n ≤ i) (hn : i ≤ 255) : ¬ Int32.ofNat i < Int32.ofNat n := by
  rw [Int32.lt_iff_toInt_lt, own_ti (by omega), own_ti (by omega)]; omega
theorem own_nn {n : Nat} (hn : n ≤ 255) : ¬ Int32.ofNat n < 0 := own_nlt (n := 0) (Nat.zero_le _) hn
theorem own_n32 {n : Nat} (hn : n ≤ 255) : (Int32.ofNat n).toNatClampNeg = n := by
  rw [Int32.toNatClampNeg, own_ti hn]; rfl
theorem own_one (i : Nat) : Int32.ofNat i + (1 : Int32) = Int32.ofNat (i + 1) := (Int32.ofNat_add i 1).symm
theorem own_eq {i n : Nat} (hi : i ≤ 255) (hn : n ≤ 255) (h : Int32.ofNat i = Int32.ofNat n) : i = n := by
  have q := congrArg Int32.toInt h
  rw [own_ti hi, own_ti hn] at q; omega
/-- the String at a is Latin-1 and its bytes are bs -/
def StrL (Z : State) (h : Heap) (a : Addr) (bs : List Int32) : Prop := ∃ (b : Addr) (k : ClassId), Exa Z h a "java/lang/String" ∧ Fld Z h a "java/lang/String" "coder" "B" (.int 0) ∧ Fld Z h a "java/lang/String" "value" "[B" (.ref b) ∧ Arv Z h b k .byte (Int32.ofNat bs.length) (bs.map Value.int) (.int 0)
theorem StrL.ext {Z : State} {h h' : Heap} {a : Addr} {bs : List Int32} (F : StrL Z h a bs) (E : Ext h h') : StrL Z h' a bs := by
  obtain ⟨b, k, h1, h2, h3, h4⟩ := F
  exact ⟨b, k, h1.ext E, h2.ext E, h3.ext E, h4.ext E⟩
theorem StrL.exa {Z : State} {h : Heap} {a : Addr} {bs : List Int32} (F : StrL Z h a bs) : Exa Z h a "java/lang/String" := by
  obtain ⟨b, k, h1, -⟩ := F; exact h1
def byt (x : Int32) : Int32 := x.toInt8.toInt32
theorem own_b8 (x : Int32) : nar .byte x.toInt8.toInt32 = byt x := by simp [nar, byt]
theorem ext_keep {h h1 h2 : Heap} {ws : List Addr} (E : Ext h h1) (Kp : Keep h1 h2 ws) (hw : ∀ x ∈ ws, h.size ≤ x) : Ext h h2 := by
  have K := ((Keep.refl h []).ext E).trans Kp (fun x hx => Or.inr (hw x hx))
  exact ⟨K.1, fun a c q => K.2.1 a c q nin0⟩
/-- a String whose value is still null is no booked one -/
theorem safe_blank {Z : State} {EL : List (String × Nat)} {vm : Vm} {h : Heap} {x : Addr} (hal : Z.vm.Alike vm) (E : Exa Z h x "java/lang/String") (F : Fld Z h x "java/lang/String" "value" "[B" .null) : Safe Z EL vm h x := fun B => by
  obtain ⟨cell, k, e1, e2, -⟩ := E
  obtain ⟨c1, cf, k1, i1, f, f1, f2, -, -, -, -, f7⟩ := F
  cases e1.symm.trans f1
  obtain ⟨p, -, u, a, -, q, -, F, rfl | rfl⟩ := B
  · obtain ⟨cS, ⟨⟨s1, s2, s3, ⟨cv, kv, iv, s4, s4'⟩, ⟨cc, kc, ic, s5, s5'⟩, s6, s7, s8, -⟩, -⟩, -⟩ := F
    cases (show h[q.sa]? = some q.sC from s1).symm.trans e1
    obtain ⟨kv', z4⟩ := ff_back (U := Wst Z vm h) hal s4
    cases f2.symm.trans z4
    rw [s8] at f7
    cases f7
  · cases (show h[q.sd]? = some q.SA from F.hd).symm.trans e1
    obtain ⟨cS, -, -, g, -⟩ := F
    have g : vm.findClass "[B" = some q.SA.cls := g
    rw [hal.findClass] at g
    obtain ⟨k3, q1, q2⟩ := Vm.findClass_spec g
    obtain ⟨k4, q3, q4⟩ := Vm.findClass_spec e2
    cases q1.symm.trans q3
    have := q2.symm.trans q4
    exact absurd this (by decide)
theorem pnS : plainName "java/lang/String" = true := by first | (simp [plainName, overriddenIn]; done) | decide +kernel
theorem pnL1 : plainName "java/lang/StringLatin1" = true := by first | (simp [plainName, overriddenIn]; done) | decide +kernel
theorem pnU : plainName "java/lang/StringUTF16" = true := by first | (simp [plainName, overriddenIn]; done) | decide +kernel
theorem dsc_0 : decode jdk_42_method_3_code 0 = .ok (.aload_n 0, 1) := by decide +kernel
theorem dsc_1 : decode jdk_42_method_3_code 1 = .ok (.aload_n 1, 1) := by decide +kernel
theorem dsc_2 : decode jdk_42_method_3_code 2 = .ok (.iconst 0, 1) := by decide +kernel
theorem dsc_3 : decode jdk_42_method_3_code 3 = .ok (.aload_n 1, 1) := by decide +kernel
theorem dsc_4 : decode jdk_42_method_3_code 4 = .ok (.arraylength, 1) := by decide +kernel
theorem dsc_5 : decode jdk_42_method_3_code 5 = .ok (.aconst_null, 1) := by decide +kernel
theorem dsc_6 : decode jdk_42_method_3_code 6 = .ok (.invokespecial 27, 3) := by decide +kernel
theorem dsc_9 : decode jdk_42_method_3_code 9 = .ok (.return_, 1) := by decide +kernel
theorem dsv_0 : decode jdk_42_method_149_code 0 = .ok (.aload_n 0, 1) := by decide +kernel
theorem dsv_1 : decode jdk_42_method_149_code 1 = .ok (.invokespecial 1, 3) := by decide +kernel
theorem dsv_4 : decode jdk_42_method_149_code 4 = .ok (.iload_n 3, 1) := by decide +kernel
theorem dsv_5 : decode jdk_42_method_149_code 5 = .ok (.ifCond .ne 22, 3) := by decide +kernel
theorem dsv_8 : decode jdk_42_method_149_code 8 = .ok (.aload_n 0, 1) := by decide +kernel
theorem dsv_9 : decode jdk_42_method_149_code 9 = .ok (.ldc 7, 2) := by decide +kernel
theorem dsv_11 : decode jdk_42_method_149_code 11 = .ok (.getfield 9, 3) := by decide +kernel
theorem dsv_14 : decode jdk_42_method_149_code 14 = .ok (.putfield 9, 3) := by decide +kernel
theorem dsv_17 : decode jdk_42_method_149_code 17 = .ok (.aload_n 0, 1) := by decide +kernel
theorem dsv_18 : decode jdk_42_method_149_code 18 = .ok (.ldc 7, 2) := by decide +kernel
theorem dsv_20 : decode jdk_42_method_149_code 20 = .ok (.getfield 15, 3) := by decide +kernel
theorem dsv_23 : decode jdk_42_method_149_code 23 = .ok (.putfield 15, 3) := by decide +kernel
theorem dsv_26 : decode jdk_42_method_149_code 26 = .ok (.return_, 1) := by decide +kernel
theorem dsv_27 : decode jdk_42_method_149_code 27 = .ok (.getstatic 38, 3) := by decide +kernel
theorem dsv_30 : decode jdk_42_method_149_code 30 = .ok (.ifCond .eq 28, 3) := by decide +kernel
theorem dsv_33 : decode jdk_42_method_149_code 33 = .ok (.aload_n 1, 1) := by decide +kernel
theorem dsv_34 : decode jdk_42_method_149_code 34 = .ok (.iload_n 2, 1) := by decide +kernel
theorem dsv_35 : decode jdk_42_method_149_code 35 = .ok (.iload_n 3, 1) := by decide +kernel
theorem dsv_36 : decode jdk_42_method_149_code 36 = .ok (.invokestatic 177, 3) := by decide +kernel
theorem dsv_39 : decode jdk_42_method_149_code 39 = .ok (.astore 5, 2) := by decide +kernel
theorem dsv_41 : decode jdk_42_method_149_code 41 = .ok (.aload_n 0, 1) := by decide +kernel
theorem dsv_42 : decode jdk_42_method_149_code 42 = .ok (.aload 5, 2) := by decide +kernel
theorem dsv_44 : decode jdk_42_method_149_code 44 = .ok (.iload_n 3, 1) := by decide +kernel
theorem dsv_45 : decode jdk_42_method_149_code 45 = .ok (.invokestatic 47, 3) := by decide +kernel
theorem dsv_48 : decode jdk_42_method_149_code 48 = .ok (.putfield 15, 3) := by decide +kernel
theorem dsv_51 : decode jdk_42_method_149_code 51 = .ok (.aload_n 0, 1) := by decide +kernel
theorem dsv_52 : decode jdk_42_method_149_code 52 = .ok (.aload 5, 2) := by decide +kernel
theorem dsv_54 : decode jdk_42_method_149_code 54 = .ok (.putfield 9, 3) := by decide +kernel
theorem dsv_57 : decode jdk_42_method_149_code 57 = .ok (.return_, 1) := by decide +kernel
theorem dsv_58 : decode jdk_42_method_149_code 58 = .ok (.aload_n 0, 1) := by decide +kernel
theorem dsv_59 : decode jdk_42_method_149_code 59 = .ok (.iconst 1, 1) := by decide +kernel
theorem dsv_60 : decode jdk_42_method_149_code 60 = .ok (.putfield 15, 3) := by decide +kernel
theorem dsv_63 : decode jdk_42_method_149_code 63 = .ok (.aload_n 0, 1) := by decide +kernel
theorem dsv_64 : decode jdk_42_method_149_code 64 = .ok (.aload_n 1, 1) := by decide +kernel
theorem dsv_65 : decode jdk_42_method_149_code 65 = .ok (.iload_n 2, 1) := by decide +kernel
theorem dsv_66 : decode jdk_42_method_149_code 66 = .ok (.iload_n 3, 1) := by decide +kernel
theorem dsv_67 : decode jdk_42_method_149_code 67 = .ok (.invokestatic 180, 3) := by decide +kernel
theorem dsv_70 : decode jdk_42_method_149_code 70 = .ok (.putfield 9, 3) := by decide +kernel
theorem dsv_73 : decode jdk_42_method_149_code 73 = .ok (.return_, 1) := by decide +kernel
theorem dcm_0 : decode jdk_52_method_16_code 0 = .ok (.iload_n 2, 1) := by decide +kernel
theorem dcm_1 : decode jdk_52_method_16_code 1 = .ok (.newarray .byte, 2) := by decide +kernel
theorem dcm_3 : decode jdk_52_method_16_code 3 = .ok (.astore_n 3, 1) := by decide +kernel
theorem dcm_4 : decode jdk_52_method_16_code 4 = .ok (.aload_n 0, 1) := by decide +kernel
theorem dcm_5 : decode jdk_52_method_16_code 5 = .ok (.iload_n 1, 1) := by decide +kernel
theorem dcm_6 : decode jdk_52_method_16_code 6 = .ok (.aload_n 3, 1) := by decide +kernel
theorem dcm_7 : decode jdk_52_method_16_code 7 = .ok (.iconst 0, 1) := by decide +kernel
theorem dcm_8 : decode jdk_52_method_16_code 8 = .ok (.iload_n 2, 1) := by decide +kernel
theorem dcm_9 : decode jdk_52_method_16_code 9 = .ok (.invokestatic 115, 3) := by decide +kernel
theorem dcm_12 : decode jdk_52_method_16_code 12 = .ok (.istore 4, 2) := by decide +kernel
theorem dcm_14 : decode jdk_52_method_16_code 14 = .ok (.iload 4, 2) := by decide +kernel
theorem dcm_16 : decode jdk_52_method_16_code 16 = .ok (.iload_n 2, 1) := by decide +kernel
theorem dcm_17 : decode jdk_52_method_16_code 17 = .ok (.if_icmp .eq 40, 3) := by decide +kernel
theorem dcm_20 : decode jdk_52_method_16_code 20 = .ok (.aload_n 0, 1) := by decide +kernel
theorem dcm_21 : decode jdk_52_method_16_code 21 = .ok (.iload_n 1, 1) := by decide +kernel
theorem dcm_22 : decode jdk_52_method_16_code 22 = .ok (.iload_n 2, 1) := by decide +kernel
theorem dcm_23 : decode jdk_52_method_16_code 23 = .ok (.invokestatic 119, 3) := by decide +kernel
theorem dcm_26 : decode jdk_52_method_16_code 26 = .ok (.astore 5, 2) := by decide +kernel
theorem dcm_28 : decode jdk_52_method_16_code 28 = .ok (.aload 5, 2) := by decide +kernel
theorem dcm_30 : decode jdk_52_method_16_code 30 = .ok (.iload 4, 2) := by decide +kernel
theorem dcm_32 : decode jdk_52_method_16_code 32 = .ok (.invokestatic 71, 3) := by decide +kernel
theorem dcm_35 : decode jdk_52_method_16_code 35 = .ok (.sipush 255, 3) := by decide +kernel
theorem dcm_38 : decode jdk_52_method_16_code 38 = .ok (.if_icmp .gt 16, 3) := by decide +kernel
theorem dcm_41 : decode jdk_52_method_16_code 41 = .ok (.aload 5, 2) := by decide +kernel
theorem dcm_43 : decode jdk_52_method_16_code 43 = .ok (.iconst 0, 1) := by decide +kernel
theorem dcm_44 : decode jdk_52_method_16_code 44 = .ok (.aload_n 3, 1) := by decide +kernel
theorem dcm_45 : decode jdk_52_method_16_code 45 = .ok (.iconst 0, 1) := by decide +kernel
theorem dcm_46 : decode jdk_52_method_16_code 46 = .ok (.iload_n 2, 1) := by decide +kernel
theorem dcm_47 : decode jdk_52_method_16_code 47 = .ok (.invokestatic 123, 3) := by decide +kernel
theorem dcm_50 : decode jdk_52_method_16_code 50 = .ok (.iload_n 2, 1) := by decide +kernel
theorem dcm_51 : decode jdk_52_method_16_code 51 = .ok (.if_icmp .eq 6, 3) := by decide +kernel
theorem dcm_54 : decode jdk_52_method_16_code 54 = .ok (.aload 5, 2) := by decide +kernel
theorem dcm_56 : decode jdk_52_method_16_code 56 = .ok (.areturn, 1) := by decide +kernel
theorem dcm_57 : decode jdk_52_method_16_code 57 = .ok (.aload_n 3, 1) := by decide +kernel
theorem dcm_58 : decode jdk_52_method_16_code 58 = .ok (.areturn, 1) := by decide +kernel
theorem dcl_0 : decode jdk_52_method_21_code 0 = .ok (.iconst 0, 1) := by decide +kernel
theorem dcl_1 : decode jdk_52_method_21_code 1 = .ok (.istore 5, 2) := by decide +kernel
theorem dcl_3 : decode jdk_52_method_21_code 3 = .ok (.iload 5, 2) := by decide +kernel
theorem dcl_5 : decode jdk_52_method_21_code 5 = .ok (.iload 4, 2) := by decide +kernel
theorem dcl_7 : decode jdk_52_method_21_code 7 = .ok (.if_icmp .ge 37, 3) := by decide +kernel
theorem dcl_10 : decode jdk_52_method_21_code 10 = .ok (.aload_n 0, 1) := by decide +kernel
theorem dcl_11 : decode jdk_52_method_21_code 11 = .ok (.iload_n 1, 1) := by decide +kernel
theorem dcl_12 : decode jdk_52_method_21_code 12 = .ok (.caload, 1) := by decide +kernel
theorem dcl_13 : decode jdk_52_method_21_code 13 = .ok (.istore 6, 2) := by decide +kernel
theorem dcl_15 : decode jdk_52_method_21_code 15 = .ok (.iload 6, 2) := by decide +kernel
theorem dcl_17 : decode jdk_52_method_21_code 17 = .ok (.sipush 255, 3) := by decide +kernel
theorem dcl_20 : decode jdk_52_method_21_code 20 = .ok (.if_icmp .le 6, 3) := by decide +kernel
theorem dcl_23 : decode jdk_52_method_21_code 23 = .ok (.iload 5, 2) := by decide +kernel
theorem dcl_25 : decode jdk_52_method_21_code 25 = .ok (.ireturn, 1) := by decide +kernel
theorem dcl_26 : decode jdk_52_method_21_code 26 = .ok (.aload_n 2, 1) := by decide +kernel
theorem dcl_27 : decode jdk_52_method_21_code 27 = .ok (.iload_n 3, 1) := by decide +kernel
theorem dcl_28 : decode jdk_52_method_21_code 28 = .ok (.iload 6, 2) := by decide +kernel
theorem dcl_30 : decode jdk_52_method_21_code 30 = .ok (.i2b, 1) := by decide +kernel
theorem dcl_31 : decode jdk_52_method_21_code 31 = .ok (.bastore, 1) := by decide +kernel
theorem dcl_32 : decode jdk_52_method_21_code 32 = .ok (.iinc 1 1, 3) := by decide +kernel
theorem dcl_35 : decode jdk_52_method_21_code 35 = .ok (.iinc 3 1, 3) := by decide +kernel
theorem dcl_38 : decode jdk_52_method_21_code 38 = .ok (.iinc 5 1, 3) := by decide +kernel
theorem dcl_41 : decode jdk_52_method_21_code 41 = .ok (.goto (-38), 3) := by decide +kernel
theorem dcl_44 : decode jdk_52_method_21_code 44 = .ok (.iload 4, 2) := by decide +kernel
theorem dcl_46 : decode jdk_52_method_21_code 46 = .ok (.ireturn, 1) := by decide +kernel
theorem dco_0 : decode jdk_52_method_15_code 0 = .ok (.iload_n 1, 1) := by decide +kernel
theorem dco_1 : decode jdk_52_method_15_code 1 = .ok (.aload_n 0, 1) := by decide +kernel
theorem dco_2 : decode jdk_52_method_15_code 2 = .ok (.arraylength, 1) := by decide +kernel
theorem dco_3 : decode jdk_52_method_15_code 3 = .ok (.isub, 1) := by decide +kernel
theorem dco_4 : decode jdk_52_method_15_code 4 = .ok (.bipush 31, 2) := by decide +kernel
theorem dco_6 : decode jdk_52_method_15_code 6 = .ok (.iushr, 1) := by decide +kernel
theorem dco_7 : decode jdk_52_method_15_code 7 = .ok (.i2b, 1) := by decide +kernel
theorem dco_8 : decode jdk_52_method_15_code 8 = .ok (.ireturn, 1) := by decide +kernel
theorem pdSV : parseMethodDescriptor "([CIILjava/lang/Void;)V" = some ⟨[(.array .char), .int, .int, (.object "java/lang/Void")], none⟩ := by decide +kernel
theorem pdSC : parseMethodDescriptor "([C)V" = some ⟨[(.array .char)], none⟩ := by decide +kernel
theorem pdCM : parseMethodDescriptor "([CII)[B" = some ⟨[(.array .char), .int, .int], some (.array .byte)⟩ := by decide +kernel
theorem pdCL : parseMethodDescriptor "([CI[BII)I" = some ⟨[(.array .char), .int, (.array .byte), .int, .int], some .int⟩ := by decide +kernel
theorem pdCO : parseMethodDescriptor "([BI)B" = some ⟨[(.array .byte), .int], some .byte⟩ := by decide +kernel
theorem own_get {xs : List Int32} {j : Nat} (h : j < xs.length) : ∃ y, xs[j]? = some y := ⟨xs[j], List.getElem?_eq_getElem h⟩
theorem own_gv {cs : List Int32} {i : Nat} {x : Int32} (h : cs[i]? = some x) : (cs.map Value.int).getD i (.int 0) = .int x := by
  simp [List.getD_eq_getElem?_getD, h]
/-- dst when i signs are written -/
def own_dst (cs : List Int32) (i : Nat) : List Value := ((cs.take i).map fun x => Value.int (byt x)) ++ List.replicate (cs.length - i) (.int 0)
theorem own_dst0 (cs : List Int32) : own_dst cs 0 = List.replicate cs.length (.int 0) := by simp [own_dst]
theorem own_dstn (cs : List Int32) : own_dst cs cs.length = (cs.map byt).map Value.int := by simp [own_dst]
theorem own_dstl (cs : List Int32) {i : Nat} (hi : i ≤ cs.length) : (own_dst cs i).length = cs.length := by simp [own_dst]; omega
theorem own_dsts {cs : List Int32} {i : Nat} {x : Int32} (h : cs[i]? = some x) : (own_dst cs i).set i (.int (byt x)) = own_dst cs (i + 1) := by
  have hi := (List.getElem?_eq_some_iff.mp h).1
  have hx := (List.getElem?_eq_some_iff.mp h).2
  obtain ⟨d, hd⟩ : ∃ d, cs.length - i = d + 1 := ⟨cs.length - i - 1, by omega⟩
  have hd2 : cs.length - (i + 1) = d := by omega
  have hl : ((cs.take i).map fun x => Value.int (byt x)).length = i := by simp; omega
  unfold own_dst
  rw [hd, hd2, List.replicate_succ, List.set_append, if_neg (by omega), hl, Nat.sub_self, List.set_cons_zero, List.take_add_one, h]
  simp
theorem own_s6c {z0 z1 z2 z3 z4 z5 : Value} {s6 : Slot} {v : Int32} (h : One s6) : storeLocals #[.val z0, .val z1, .val z2, .val z3, .val z4, .val z5, s6] 6 (.int v) = some #[.val z0, .val z1, .val z2, .val z3, .val z4, .val z5, .val (.int v)] := by
  rcases h with rfl | ⟨w, rfl, hw⟩
  · rfl
  · cases w <;> first | rfl | (simp [Value.category] at hw)
section Lp
variable {Z : State} {a0 : Array Value} {p : Program} {l : Launch} {e : Env} {R : Room} {s : State} {m : MethodId} {args : Array Value} {below : List Frame} {meth : Method} {c : Code} {T : State} {h : Heap} {cells slots : Nat} {P : State → Prop}
set_option maxRecDepth 65536 in
set_option maxHeartbeats 4000000 in
theorem c_loop {src dst : Addr} {ks kd : ClassId} {cs : List Int32} (hn : cs.length ≤ 4) (hlat : ∀ (i : Nat) (x : Int32), cs[i]? = some x → ¬ 255 < x) (gd : Z.heap.size ≤ dst) (hsd : src ≠ dst)
    (hk : ∀ s6 T' h', St Z "java/lang/StringUTF16" jdk_52_method_21_code 7 p l e R s m args below meth c T' h' cells slots → Keep h h' [dst] → Arv Z h' dst kd .byte (Int32.ofNat cs.length) ((cs.map byt).map Value.int) (.int 0) → Run p e below P T' (mkF m 44 #[.val (.ref src), .val (.int (Int32.ofNat cs.length)), .val (.ref dst), .val (.int (Int32.ofNat cs.length)), .val (.int (Int32.ofNat cs.length)), .val (.int (Int32.ofNat cs.length)), s6] [])) :
    ∀ (k i : Nat) (s6 : Slot) (T : State) (h' : Heap), i + k = cs.length → One s6 → St Z "java/lang/StringUTF16" jdk_52_method_21_code 7 p l e R s m args below meth c T h' cells slots → Keep h h' [dst] → Arv Z h' src ks .char (Int32.ofNat cs.length) (cs.map Value.int) (.int 0) → Arv Z h' dst kd .byte (Int32.ofNat cs.length) (own_dst cs i) (.int 0) → Run p e below P T (mkF m 3 #[.val (.ref src), .val (.int (Int32.ofNat i)), .val (.ref dst), .val (.int (Int32.ofNat i)), .val (.int (Int32.ofNat cs.length)), .val (.int (Int32.ofNat i)), s6] []) := by
  intro k
  induction k with
  | zero =>
    intro i s6 T h' hi hs6 K Kp A D
    obtain rfl : i = cs.length := by omega
    refine r_iload (pc' := 5) K dcl_3 rfl rfl ?_
    refine r_iload (pc' := 7) K dcl_5 rfl rfl ?_
    refine r_icmp (pc1 := 10) (pc2 := 44) K dcl_7 rfl (by decide) (by decide) ?_ ?_
    · intro (hc : ¬ (Int32.ofNat cs.length) < (Int32.ofNat cs.length))
      exact hk s6 T h' K Kp (by rw [← own_dstn]; exact D)
    · intro (hc : (Int32.ofNat cs.length) < (Int32.ofNat cs.length))
      exact absurd hc Int32.lt_irrefl
  | succ k ih =>
    intro i s6 T h' hi hs6 K Kp A D
    refine r_iload (pc' := 5) K dcl_3 rfl rfl ?_
    refine r_iload (pc' := 7) K dcl_5 rfl rfl ?_
    refine r_icmp (pc1 := 10) (pc2 := 44) K dcl_7 rfl (by decide) (by decide) ?_ ?_
    · intro (hc : ¬ (Int32.ofNat i) < (Int32.ofNat cs.length))
      exact absurd (own_lt (by omega) (by omega)) hc
    · intro (hc : (Int32.ofNat i) < (Int32.ofNat cs.length))
      obtain ⟨x, hx⟩ := own_get (xs := cs) (j := i) (by omega)
      refine r_aloadN (pc' := 11) K dcl_10 rfl rfl rfl ?_
      refine r_iloadN (pc' := 12) K dcl_11 rfl rfl ?_
      refine r_caload (pc' := 13) (v := .int x) K A ⟨own_nn (by omega), own_lt (by omega) (by omega)⟩ (by rw [own_n32 (by omega)]; exact own_gv hx) dcl_12 rfl ?_
      refine r_istore (Ls' := #[.val (.ref src), .val (.int (Int32.ofNat i)), .val (.ref dst), .val (.int (Int32.ofNat i)), .val (.int (Int32.ofNat cs.length)), .val (.int (Int32.ofNat i)), .val (.int x)]) (pc' := 15) K dcl_13 rfl (own_s6c hs6) ?_
      refine r_iload (pc' := 17) K dcl_15 rfl rfl ?_
      refine r_sipush (v := (255 : Int32)) (pc' := 20) K dcl_17 rfl (by decide) ?_
      refine r_icmp (pc1 := 23) (pc2 := 26) K dcl_20 rfl (by decide) (by decide) ?_ ?_
      · intro (hc2 : ¬ (255 : Int32) < x)
        refine r_aloadN (pc' := 27) K dcl_26 rfl rfl rfl ?_
        refine r_iloadN (pc' := 28) K dcl_27 rfl rfl ?_
        refine r_iload (pc' := 30) K dcl_28 rfl rfl ?_
        refine r_i2b (pc' := 31) K dcl_30 rfl ?_
        refine r_bastore (pc' := 32) (i := i) K D gd ⟨own_nn (by omega), own_lt (by omega) (by omega)⟩ (own_n32 (by omega)) (by rw [own_dstl cs (by omega)]; omega) dcl_31 rfl ?_
        intro T2 h2 K2 W2 D2
        rw [own_b8, own_dsts hx] at D2
        refine r_iinc (v := (1 : Int32)) (Ls' := #[.val (.ref src), .val (.int ((Int32.ofNat i) + (1 : Int32))), .val (.ref dst), .val (.int (Int32.ofNat i)), .val (.int (Int32.ofNat cs.length)), .val (.int (Int32.ofNat i)), .val (.int x)]) (pc' := 35) K2 dcl_32 rfl (by decide) rfl rfl ?_
        refine r_iinc (v := (1 : Int32)) (Ls' := #[.val (.ref src), .val (.int ((Int32.ofNat i) + (1 : Int32))), .val (.ref dst), .val (.int ((Int32.ofNat i) + (1 : Int32))), .val (.int (Int32.ofNat cs.length)), .val (.int (Int32.ofNat i)), .val (.int x)]) (pc' := 38) K2 dcl_35 rfl (by decide) rfl rfl ?_
        refine r_iinc (v := (1 : Int32)) (Ls' := #[.val (.ref src), .val (.int ((Int32.ofNat i) + (1 : Int32))), .val (.ref dst), .val (.int ((Int32.ofNat i) + (1 : Int32))), .val (.int (Int32.ofNat cs.length)), .val (.int ((Int32.ofNat i) + (1 : Int32))), .val (.int x)]) (pc' := 41) K2 dcl_38 rfl (by decide) rfl rfl ?_
        simp only [own_one]
        refine r_goto (pc' := 3) K2 dcl_41 (by decide) (by decide) ?_
        exact ih (i + 1) (.val (.int x)) T2 h2 (by omega) (One.val rfl) K2 (Kp.wr W2 (Or.inl (List.mem_of_getElem? (i := 0) rfl))) (A.other W2 hsd) D2
      · intro (hc2 : (255 : Int32) < x)
        exact absurd hc2 (hlat i x hx)
end Lp
set_option maxRecDepth 65536 in
set_option maxHeartbeats 4000000 in
theorem c_cmpL (l : Launch) {Z : State} {a0 : Array Value} (hw : ∀ d ∈ tables_1, d.before a0 Z = true) {h : Heap} (hE : Ext Z.heap h) {src : Addr} {ks : ClassId} {cs : List Int32} (hn : cs.length ≤ 4) (A : Arv Z h src ks .char (Int32.ofNat cs.length) (cs.map Value.int) (.int 0)) {dst : Addr} {kd : ClassId} (hlat : ∀ (i : Nat) (x : Int32), cs[i]? = some x → ¬ 255 < x) (gd : Z.heap.size ≤ dst) (hsd : src ≠ dst) (D : Arv Z h dst kd .byte (Int32.ofNat cs.length) (List.replicate cs.length (.int 0)) (.int 0)) :
    Con l (⟨"java/lang/StringUTF16", "compress", "([CI[BII)I"⟩ : MethodName) jdk_52_method_21_code 7 (some .int) [] ({ frames := 0, cells := 0, slots := 0, locals := 0 } : Room) Z #[.ref src, .int 0, .ref dst, .int 0, .int (Int32.ofNat cs.length)] h (fun v h' => v = some (.int (Int32.ofNat cs.length)) ∧ Keep h h' [dst] ∧ Arv Z h' dst kd .byte (Int32.ofNat cs.length) ((cs.map byt).map Value.int) (.int 0)) := by
  refine con_intro (by first | exact plainFor_of_name pnU | decide +kernel) hE ?_
  intro p e s m below meth c T K hret hlk hnm
  have ef : entryFrame m #[.ref src, .int 0, .ref dst, .int 0, .int (Int32.ofNat cs.length)] 7 = (mkF m 0 #[.val (.ref src), .val (.int (0 : Int32)), .val (.ref dst), .val (.int (0 : Int32)), .val (.int (Int32.ofNat cs.length)), .unset, .unset] []) := by first | (simp [entryFrame, mkF, argsToLocals, Value.category]; done) | rfl
  rw [ef]
  refine r_iconst (v := (0 : Int32)) (pc' := 1) K dcl_0 rfl (by decide) ?_
  refine r_istore (Ls' := #[.val (.ref src), .val (.int (0 : Int32)), .val (.ref dst), .val (.int (0 : Int32)), .val (.int (Int32.ofNat cs.length)), .val (.int (0 : Int32)), .unset]) (pc' := 3) K dcl_1 rfl rfl ?_
  refine c_loop (h := h) hn hlat gd hsd ?_ cs.length 0 .unset T h (by omega) One.u K (Keep.refl _ _) A (by rw [own_dst0]; exact D)
  intro s6 T1 h1 K1 Kp1 D1
  refine r_iload (pc' := 46) K1 dcl_44 rfl rfl ?_
  exact r_retI K1 hret hlk dcl_46 (by decide) (by decide) ⟨rfl, Kp1, D1⟩
set_option maxRecDepth 65536 in
set_option maxHeartbeats 4000000 in
theorem c_cmp (l : Launch) {Z : State} {a0 : Array Value} (hw : ∀ d ∈ tables_1, d.before a0 Z = true) {h : Heap} (hE : Ext Z.heap h) {src : Addr} {ks : ClassId} {cs : List Int32} (hn : cs.length ≤ 4) (A : Arv Z h src ks .char (Int32.ofNat cs.length) (cs.map Value.int) (.int 0)) (hlat : ∀ (i : Nat) (x : Int32), cs[i]? = some x → ¬ 255 < x) :
    Con l (⟨"java/lang/StringUTF16", "compress", "([CII)[B"⟩ : MethodName) jdk_52_method_16_code 6 (some (.array .byte)) [] ({ frames := 1, cells := 1, slots := 4, locals := 18 } : Room) Z #[.ref src, .int 0, .int (Int32.ofNat cs.length)] h (fun v h' => ∃ b k, v = some (.ref b) ∧ h.size ≤ b ∧ Ext h h' ∧ Arv Z h' b k .byte (Int32.ofNat cs.length) ((cs.map byt).map Value.int) (.int 0)) := by
  refine con_intro (by first | exact plainFor_of_name pnU | decide +kernel) hE ?_
  intro p e s m below meth c T K hret hlk hnm
  have ef : entryFrame m #[.ref src, .int 0, .int (Int32.ofNat cs.length)] 6 = (mkF m 0 #[.val (.ref src), .val (.int (0 : Int32)), .val (.int (Int32.ofNat cs.length)), .unset, .unset, .unset] []) := by first | (simp [entryFrame, mkF, argsToLocals, Value.category]; done) | rfl
  rw [ef]
  refine r_iloadN (pc' := 1) K dcm_0 rfl rfl ?_
  refine r_newarr (pc' := 3) (cap := 4) K (hw _ (List.mem_of_getElem? (i := 24) rfl)) dcm_1 rfl (own_nn (by omega)) (by rw [own_n32 (by omega)]; exact hn) (by decide) (by decide) (by decide) ?_
  intro T1 h1 b k hb1 K1 E1 A1
  refine r_astoreN (Ls' := #[.val (.ref src), .val (.int (0 : Int32)), .val (.int (Int32.ofNat cs.length)), .val (.ref b), .unset, .unset]) (pc' := 4) K1 dcm_3 rfl rfl rfl ?_
  refine r_aloadN (pc' := 5) K1 dcm_4 rfl rfl rfl ?_
  refine r_iloadN (pc' := 6) K1 dcm_5 rfl rfl ?_
  refine r_aloadN (pc' := 7) K1 dcm_6 rfl rfl rfl ?_
  refine r_iconst (v := (0 : Int32)) (pc' := 8) K1 dcm_7 rfl (by decide) ?_
  refine r_iloadN (pc' := 9) K1 dcm_8 rfl rfl ?_
  have hsd : src ≠ b := by rw [hb1]; exact Nat.ne_of_lt A.lt
  refine r_static (pc' := 12) (argsL := [.ref src, .int (0 : Int32), .ref b, .int (0 : Int32), .int (Int32.ofNat cs.length)]) (rest := []) (W := 0) K1 (c_cmpL l hw K1.ext hn (A.ext E1) hlat (by rw [hb1]; exact K.sz) hsd (A1.pad (by intro i; simp [List.getD_eq_getElem?_getD, List.getElem?_replicate]; split <;> rfl))) (hw _ (List.mem_of_getElem? (i := 45) rfl)) (hw _ (List.mem_of_getElem? (i := 46) rfl)) (hw _ (List.mem_of_getElem? (i := 43) rfl)) (hw _ (List.mem_of_getElem? (i := 47) rfl)) (by decide) pdCL rfl rfl rfl (Nat.le_refl _) (by decide) (by decide) (by decide) (by decide) dcm_9 rfl ?_
  rintro _ T2 h2 K2 ⟨rfl, Kp2, A2⟩
  refine r_istore (Ls' := #[.val (.ref src), .val (.int (0 : Int32)), .val (.int (Int32.ofNat cs.length)), .val (.ref b), .val (.int (Int32.ofNat cs.length)), .unset]) (pc' := 14) K2 dcm_12 rfl rfl ?_
  refine r_iload (pc' := 16) K2 dcm_14 rfl rfl ?_
  refine r_iloadN (pc' := 17) K2 dcm_16 rfl rfl ?_
  refine r_icmp (pc1 := 20) (pc2 := 57) K2 dcm_17 rfl (by decide) (by decide) ?_ ?_
  · intro (hc : (Int32.ofNat cs.length) = (Int32.ofNat cs.length))
    refine r_aloadN (pc' := 58) K2 dcm_57 rfl rfl rfl ?_
    exact r_retA K2 hret hlk rfl rfl dcm_58 (by decide) (by decide) ⟨b, k, rfl, Nat.le_of_eq hb1.symm, ext_keep E1 Kp2 (allS (Nat.le_of_eq hb1.symm) all0), A2⟩
  · intro (hc : ¬ (Int32.ofNat cs.length) = (Int32.ofNat cs.length))
    exact absurd rfl hc
set_option maxRecDepth 65536 in
set_option maxHeartbeats 4000000 in
theorem c_cod (l : Launch) {Z : State} {a0 : Array Value} (hw : ∀ d ∈ tables_1, d.before a0 Z = true) {h : Heap} (hE : Ext Z.heap h) {b : Addr} {k : ClassId} {z : Int32} {vs : List Value} (A : Arv Z h b k .byte z vs (.int 0)) :
    Con l (⟨"java/lang/StringUTF16", "coderFromArrayLen", "([BI)B"⟩ : MethodName) jdk_52_method_15_code 2 (some .byte) [] ({ frames := 0, cells := 0, slots := 0, locals := 0 } : Room) Z #[.ref b, .int z] h (fun v h' => v = some (.int 0) ∧ h' = h) := by
  refine con_intro (by first | exact plainFor_of_name pnU | decide +kernel) hE ?_
  intro p e s m below meth c T K hret hlk hnm
  have ef : entryFrame m #[.ref b, .int z] 2 = (mkF m 0 #[.val (.ref b), .val (.int z)] []) := by first | (simp [entryFrame, mkF, argsToLocals, Value.category]; done) | rfl
  rw [ef]
  refine r_iloadN (pc' := 1) K dco_0 rfl rfl ?_
  refine r_aloadN (pc' := 2) K dco_1 rfl rfl rfl ?_
  refine r_alen (pc' := 3) K A dco_2 rfl ?_
  refine r_isub (pc' := 4) K dco_3 rfl ?_
  refine r_bipush (v := (31 : Int32)) (pc' := 6) K dco_4 rfl (by decide) ?_
  refine r_iushr (pc' := 7) K dco_6 rfl ?_
  refine r_i2b (pc' := 8) K dco_7 rfl ?_
  rw [Int32.sub_self, show ((0 : Int32).toUInt32 >>> ((31 : Int32) &&& 31).toUInt32).toInt32.toInt8.toInt32 = 0 from by decide]
  exact r_retB K hret hlk (by decide) dco_8 (by decide) (by decide) ⟨rfl, rfl⟩
set_option maxRecDepth 65536 in
set_option maxHeartbeats 4000000 in
theorem c_iV (l : Launch) {Z : State} {a0 : Array Value} (hw : ∀ d ∈ tables_1, d.before a0 Z = true) {h : Heap} (hE : Ext Z.heap h) {a : Addr} (ga : Z.heap.size ≤ a) (E : Exa Z h a "java/lang/String") (Fv : Fld Z h a "java/lang/String" "value" "[B" .null) (Fc : Fld Z h a "java/lang/String" "coder" "B" (.int 0)) {src : Addr} {ks : ClassId} {cs : List Int32} (hn : cs.length ≤ 4) (A : Arv Z h src ks .char (Int32.ofNat cs.length) (cs.map Value.int) (.int 0)) (h1 : 1 ≤ cs.length) (hlat : ∀ (i : Nat) (x : Int32), cs[i]? = some x → ¬ 255 < x) {cs0 : Int32} (Cs : Sta Z Z.heap "java/lang/String" "COMPACT_STRINGS" "Z" (.int cs0)) (hcs : ¬ cs0 = 0) :
    Con l (⟨"java/lang/String", "<init>", "([CIILjava/lang/Void;)V"⟩ : MethodName) jdk_42_method_149_code 6 none [] ({ frames := 2, cells := 1, slots := 4, locals := 35 } : Room) Z #[.ref a, .ref src, .int 0, .int (Int32.ofNat cs.length), .null] h (fun v h' => v = none ∧ Keep h h' [a] ∧ StrL Z h' a (cs.map byt)) := by
  refine con_intro (by first | exact plainFor_of_name pnS | decide +kernel) hE ?_
  intro p e s m below meth c T K hret hlk hnm
  have ef : entryFrame m #[.ref a, .ref src, .int 0, .int (Int32.ofNat cs.length), .null] 6 = (mkF m 0 #[.val (.ref a), .val (.ref src), .val (.int (0 : Int32)), .val (.int (Int32.ofNat cs.length)), .val (.null), .unset] []) := by first | (simp [entryFrame, mkF, argsToLocals, Value.category]; done) | rfl
  rw [ef]
  refine r_aloadN (pc' := 1) K dsv_0 rfl rfl rfl ?_
  refine r_init (pc' := 4) (W := 0) K (hw _ (List.mem_of_getElem? (i := 20) rfl)) (hw _ (List.mem_of_getElem? (i := 21) rfl)) (hw _ (List.mem_of_getElem? (i := 22) rfl)) rfl dsv_1 rfl (by decide) (Nat.le_refl _) (by decide) ?_
  intro T1 K1
  refine r_iloadN (pc' := 5) K1 dsv_4 rfl rfl ?_
  refine r_if (pc1 := 8) (pc2 := 27) K1 dsv_5 rfl (by decide) (by decide) ?_ ?_
  · intro (hc : ¬ (Int32.ofNat cs.length) = (0 : Int32))
    refine r_getS (pc' := 30) K1 (hw _ (List.mem_of_getElem? (i := 40) rfl)) (Cs.ext K.ext) dsv_27 rfl ?_
    intro T2 K2
    refine r_if (pc1 := 33) (pc2 := 58) K2 dsv_30 rfl (by decide) (by decide) ?_ ?_
    · intro (hc2 : cs0 = (0 : Int32))
      exact absurd hc2 hcs
    · intro (hc2 : ¬ cs0 = (0 : Int32))
      refine r_aloadN (pc' := 34) K2 dsv_33 rfl rfl rfl ?_
      refine r_iloadN (pc' := 35) K2 dsv_34 rfl rfl ?_
      refine r_iloadN (pc' := 36) K2 dsv_35 rfl rfl ?_
      refine r_static (pc' := 39) (argsL := [.ref src, .int (0 : Int32), .int (Int32.ofNat cs.length)]) (rest := []) (W := 0) K2 (c_cmp l hw hE hn A hlat) (hw _ (List.mem_of_getElem? (i := 41) rfl)) (hw _ (List.mem_of_getElem? (i := 42) rfl)) (hw _ (List.mem_of_getElem? (i := 43) rfl)) (hw _ (List.mem_of_getElem? (i := 44) rfl)) (by decide) pdCM rfl rfl rfl (Nat.le_refl _) (by decide) (by decide) (by decide) (by decide) dsv_36 rfl ?_
      rintro _ T3 h3 K3 ⟨b, kb, rfl, hb3, E3, A3⟩
      refine r_astore (Ls' := #[.val (.ref a), .val (.ref src), .val (.int (0 : Int32)), .val (.int (Int32.ofNat cs.length)), .val (.null), .val (.ref b)]) (pc' := 41) K3 dsv_39 rfl rfl rfl ?_
      refine r_aloadN (pc' := 42) K3 dsv_41 rfl rfl rfl ?_
      refine r_aload (pc' := 44) K3 dsv_42 rfl rfl rfl ?_
      refine r_iloadN (pc' := 45) K3 dsv_44 rfl rfl ?_
      refine r_static (pc' := 48) (argsL := [.ref b, .int (Int32.ofNat cs.length)]) (rest := [.ref a]) (W := 1) K3 (c_cod l hw K3.ext A3) (hw _ (List.mem_of_getElem? (i := 48) rfl)) (hw _ (List.mem_of_getElem? (i := 49) rfl)) (hw _ (List.mem_of_getElem? (i := 43) rfl)) (hw _ (List.mem_of_getElem? (i := 50) rfl)) (by decide) pdCO rfl rfl rfl (Nat.le_refl _) (by decide) (by decide) (by decide) (by decide) dsv_45 rfl ?_
      rintro _ T4 _ K4 ⟨rfl, rfl⟩
      refine r_putF (pc' := 51) K4 (hw _ (List.mem_of_getElem? (i := 30) rfl)) (Fc.ext E3) (E.ext E3) ga (Or.inr ⟨(hw _ (List.mem_of_getElem? (i := 26) rfl)), rfl, hnm⟩) (hw _ (List.mem_of_getElem? (i := 7) rfl)) (ty := .byte) (by decide) rfl rfl dsv_48 rfl ?_
      intro T5 h5 K5 W5
      refine r_aloadN (pc' := 52) K5 dsv_51 rfl rfl rfl ?_
      refine r_aload (pc' := 54) K5 dsv_52 rfl rfl rfl ?_
      refine r_putF (pc' := 57) K5 (hw _ (List.mem_of_getElem? (i := 29) rfl)) ((Fv.ext E3).other W5 (Or.inr (slot_ne (Or.inr (hw _ (List.mem_of_getElem? (i := 25) rfl))) (Or.inr (hw _ (List.mem_of_getElem? (i := 26) rfl))) (by decide) (t := .array .byte) (t' := .byte) (by decide) (by decide)))) ((E.ext E3).wr W5) ga (Or.inr ⟨(hw _ (List.mem_of_getElem? (i := 25) rfl)), rfl, hnm⟩) (hw _ (List.mem_of_getElem? (i := 7) rfl)) (ty := .array .byte) (by decide) rfl rfl dsv_54 rfl ?_
      intro T6 h6 K6 W6
      have hab : b ≠ a := Nat.ne_of_gt (Nat.lt_of_lt_of_le E.lt hb3)
      exact r_retV K6 hret hlk dsv_57 (by decide) (by decide) ⟨rfl, ((((Keep.refl _ _).ext E3).wr W5 (Or.inl (List.mem_of_getElem? (i := 0) rfl))).wr W6 (Or.inl (List.mem_of_getElem? (i := 0) rfl))), b, kb, ((E.ext E3).wr W5).wr W6, ((Fc.ext E3).same W5).other W6 (Or.inr (slot_ne (Or.inr (hw _ (List.mem_of_getElem? (i := 26) rfl))) (Or.inr (hw _ (List.mem_of_getElem? (i := 25) rfl))) (by decide) (t := .byte) (t' := .array .byte) (by decide) (by decide))), ((Fv.ext E3).other W5 (Or.inr (slot_ne (Or.inr (hw _ (List.mem_of_getElem? (i := 25) rfl))) (Or.inr (hw _ (List.mem_of_getElem? (i := 26) rfl))) (by decide) (t := .array .byte) (t' := .byte) (by decide) (by decide)))).same W6, by rw [List.length_map]; exact (A3.other W5 hab).other W6 hab⟩
  · intro (hc : (Int32.ofNat cs.length) = (0 : Int32))
    exact absurd (own_eq (i := cs.length) (n := 0) (by omega) (by omega) hc) (by omega)
set_option maxRecDepth 65536 in
set_option maxHeartbeats 4000000 in
theorem c_iC (l : Launch) {Z : State} {a0 : Array Value} (hw : ∀ d ∈ tables_1, d.before a0 Z = true) {h : Heap} (hE : Ext Z.heap h) {a : Addr} (ga : Z.heap.size ≤ a) (E : Exa Z h a "java/lang/String") (Fv : Fld Z h a "java/lang/String" "value" "[B" .null) (Fc : Fld Z h a "java/lang/String" "coder" "B" (.int 0)) {src : Addr} {ks : ClassId} {cs : List Int32} (hn : cs.length ≤ 4) (A : Arv Z h src ks .char (Int32.ofNat cs.length) (cs.map Value.int) (.int 0)) (h1 : 1 ≤ cs.length) (hlat : ∀ (i : Nat) (x : Int32), cs[i]? = some x → ¬ 255 < x) {cs0 : Int32} (Cs : Sta Z Z.heap "java/lang/String" "COMPACT_STRINGS" "Z" (.int cs0)) (hcs : ¬ cs0 = 0) :
    Con l (⟨"java/lang/String", "<init>", "([C)V"⟩ : MethodName) jdk_42_method_3_code 2 none [] ({ frames := 3, cells := 1, slots := 4, locals := 52 } : Room) Z #[.ref a, .ref src] h (fun v h' => v = none ∧ Keep h h' [a] ∧ StrL Z h' a (cs.map byt)) := by
  refine con_intro (by first | exact plainFor_of_name pnS | decide +kernel) hE ?_
  intro p e s m below meth c T K hret hlk hnm
  have ef : entryFrame m #[.ref a, .ref src] 2 = (mkF m 0 #[.val (.ref a), .val (.ref src)] []) := by first | (simp [entryFrame, mkF, argsToLocals, Value.category]; done) | rfl
  rw [ef]
  refine r_aloadN (pc' := 1) K dsc_0 rfl rfl rfl ?_
  refine r_aloadN (pc' := 2) K dsc_1 rfl rfl rfl ?_
  refine r_iconst (v := (0 : Int32)) (pc' := 3) K dsc_2 rfl (by decide) ?_
  refine r_aloadN (pc' := 4) K dsc_3 rfl rfl rfl ?_
  refine r_alen (pc' := 5) K A dsc_4 rfl ?_
  refine r_aconstNull (pc' := 6) K dsc_5 rfl ?_
  refine r_special (pc' := 9) (argsL := [.ref src, .int (0 : Int32), .int (Int32.ofNat cs.length), .null]) (rest := []) (W := 0) K (c_iV l hw hE ga E Fv Fc hn A h1 hlat Cs hcs) rfl (hw _ (List.mem_of_getElem? (i := 16) rfl)) (hw _ (List.mem_of_getElem? (i := 17) rfl)) (hw _ (List.mem_of_getElem? (i := 8) rfl)) (hw _ (List.mem_of_getElem? (i := 19) rfl)) (by decide) pdSV rfl rfl rfl (Nat.le_refl _) (by decide) (by decide) (by decide) (by decide) dsc_6 rfl ?_
  rintro _ T1 h1' K1 ⟨rfl, Kp, F⟩
  exact r_retV K1 hret hlk dsc_9 (by decide) (by decide) ⟨rfl, Kp, F⟩
theorem own_wS {Z : State} {a0 : Array Value} (hw : ∀ d ∈ tables_1, d.before a0 Z = true) : ∀ a ∈ Bundle.stringAtoms, a.before a0 Z = true := fun d hd => by
  simp only [Bundle.stringAtoms, List.mem_cons, List.not_mem_nil, or_false] at hd
  rcases hd with rfl | rfl | rfl | rfl | rfl | rfl | rfl
  · exact (hw _ (List.mem_of_getElem? (i := 8) rfl))
  · exact (hw _ (List.mem_of_getElem? (i := 7) rfl))
  · exact (hw _ (List.mem_of_getElem? (i := 24) rfl))
  · exact (hw _ (List.mem_of_getElem? (i := 25) rfl))
  · exact (hw _ (List.mem_of_getElem? (i := 26) rfl))
  · exact (hw _ (List.mem_of_getElem? (i := 27) rfl))
  · exact (hw _ (List.mem_of_getElem? (i := 28) rfl))
set_option maxRecDepth 65536 in
set_option maxHeartbeats 4000000 in
theorem c_iVe (l : Launch) {Z : State} {a0 : Array Value} (hw : ∀ d ∈ tables_1, d.before a0 Z = true) {h : Heap} (hE : Ext Z.heap h) (hEL : EW Z a0 [("java/lang/String", 7)]) {a : Addr} (ga : Z.heap.size ≤ a) (E : Exa Z h a "java/lang/String") (Fv : Fld Z h a "java/lang/String" "value" "[B" .null) (Fc : Fld Z h a "java/lang/String" "coder" "B" (.int 0)) {src : Addr} :
    ConW l (⟨"java/lang/String", "<init>", "([CIILjava/lang/Void;)V"⟩ : MethodName) jdk_42_method_149_code 6 none [] ({ frames := 1, cells := 4, slots := 8, locals := 12 } : Room) Z [("java/lang/String", 7)] #[.ref a, .ref src, .int 0, .int 0, .null] h (fun v h' => v = none ∧ Keep h h' [a] ∧ StrL Z h' a []) := by
  refine con_introW (by first | exact plainFor_of_name pnS | decide +kernel) hE ?_
  intro p e s m below meth c T K I0 hret hlk hnm
  have ef : entryFrame m #[.ref a, .ref src, .int 0, .int 0, .null] 6 = (mkF m 0 #[.val (.ref a), .val (.ref src), .val (.int (0 : Int32)), .val (.int (0 : Int32)), .val (.null), .unset] []) := by first | (simp [entryFrame, mkF, argsToLocals, Value.category]; done) | rfl
  rw [ef]
  refine r_aloadN (pc' := 1) K dsv_0 rfl rfl rfl ?_
  refine r_init (pc' := 4) (W := 0) K (hw _ (List.mem_of_getElem? (i := 20) rfl)) (hw _ (List.mem_of_getElem? (i := 21) rfl)) (hw _ (List.mem_of_getElem? (i := 22) rfl)) rfl dsv_1 rfl (by decide) (Nat.le_refl _) (by decide) ?_
  intro T1 K1
  refine r_iloadN (pc' := 5) K1 dsv_4 rfl rfl ?_
  refine r_if (pc1 := 8) (pc2 := 27) K1 dsv_5 rfl (by decide) (by decide) ?_ ?_
  · intro (hc : ¬ (0 : Int32) = (0 : Int32))
    exact absurd rfl hc
  · intro (hc : (0 : Int32) = (0 : Int32))
    have Sf := safe_blank (EL := [("java/lang/String", 7)]) K.al E Fv
    refine r_aloadN (pc' := 9) K1 dsv_8 rfl rfl rfl ?_
    refine w_ldc (pc' := 11) (text := "") (n := 0) (vs := []) (z := Int32.ofNat 0) K1 I0 hEL (by simp) (hw _ (List.mem_of_getElem? (i := 23) rfl)) (own_wS hw) ⟨by simp, rfl⟩ (by decide) rfl dsv_9 rfl (by decide) (by decide) (by decide) (by decide) ?_
    intro q T2 h2 vm2 b kb K2 I2 E2 C2 Aq2 Fcq2 Fvq2 Ab2 N2
    have Sf2 := C2.safe E.lt Sf
    refine r_getF (pc' := 14) K2 (hw _ (List.mem_of_getElem? (i := 29) rfl)) Fvq2 dsv_11 rfl ?_
    intro T3 K3
    refine r_putF (pc' := 17) K3 (hw _ (List.mem_of_getElem? (i := 29) rfl)) (Fv.ext E2) (E.ext E2) ga (Or.inr ⟨(hw _ (List.mem_of_getElem? (i := 25) rfl)), rfl, hnm⟩) (hw _ (List.mem_of_getElem? (i := 7) rfl)) (ty := .array .byte) (by decide) rfl rfl dsv_14 rfl ?_
    intro T4 h4 K4 W4
    have I4 := I2.wr W4 Sf2
    have Sf4 := Safe.wr W4 Sf2 I2.ch Sf2
    refine r_aloadN (pc' := 18) K4 dsv_17 rfl rfl rfl ?_
    refine w_ldc (pc' := 20) (text := "") (n := 0) (vs := []) (z := Int32.ofNat 0) K4 I4 hEL (by simp) (hw _ (List.mem_of_getElem? (i := 23) rfl)) (own_wS hw) ⟨by simp, rfl⟩ (by decide) rfl dsv_18 rfl (by decide) (by decide) (by decide) (by decide) ?_
    intro q' T5 h5 vm5 b' kb' K5 I5 E5 C5 Aq5 Fcq5 Fvq5 Ab5 N5
    have Sf5 := C5.safe ((E.ext E2).wr W4).lt Sf4
    refine r_getF (pc' := 23) K5 (hw _ (List.mem_of_getElem? (i := 30) rfl)) Fcq5 dsv_20 rfl ?_
    intro T6 K6
    have Fc5 := ((Fc.ext E2).other W4 (Or.inr (slot_ne (Or.inr (hw _ (List.mem_of_getElem? (i := 26) rfl))) (Or.inr (hw _ (List.mem_of_getElem? (i := 25) rfl))) (by decide) (t := .byte) (t' := .array .byte) (by decide) (by decide)))).ext E5
    have A5 := ((E.ext E2).wr W4).ext E5
    refine r_putF (pc' := 26) K6 (hw _ (List.mem_of_getElem? (i := 30) rfl)) Fc5 A5 ga (Or.inr ⟨(hw _ (List.mem_of_getElem? (i := 26) rfl)), rfl, hnm⟩) (hw _ (List.mem_of_getElem? (i := 7) rfl)) (ty := .byte) (by decide) rfl rfl dsv_23 rfl ?_
    intro T7 h7 K7 W7
    have hba : b ≠ a := (N2 a Sf2).2.symm
    exact w_retV K7 (I5.wr W7 Sf5) hEL hret hlk dsv_26 (by decide) (by decide) ⟨rfl, (((((Keep.refl _ _).ext E2).wr W4 (Or.inl (List.mem_of_getElem? (i := 0) rfl))).ext E5).wr W7 (Or.inl (List.mem_of_getElem? (i := 0) rfl))), b, kb, A5.wr W7, Fc5.same W7, (((Fv.ext E2).same W4).ext E5).other W7 (Or.inr (slot_ne (Or.inr (hw _ (List.mem_of_getElem? (i := 25) rfl))) (Or.inr (hw _ (List.mem_of_getElem? (i := 26) rfl))) (by decide) (t := .array .byte) (t' := .byte) (by decide) (by decide))), ((Ab2.other W4 hba).ext E5).other W7 hba⟩
set_option maxRecDepth 65536 in
set_option maxHeartbeats 4000000 in
theorem c_iCe (l : Launch) {Z : State} {a0 : Array Value} (hw : ∀ d ∈ tables_1, d.before a0 Z = true) {h : Heap} (hE : Ext Z.heap h) (hEL : EW Z a0 [("java/lang/String", 7)]) {a : Addr} (ga : Z.heap.size ≤ a) (E : Exa Z h a "java/lang/String") (Fv : Fld Z h a "java/lang/String" "value" "[B" .null) (Fc : Fld Z h a "java/lang/String" "coder" "B" (.int 0)) {src : Addr} {ks : ClassId} {vs : List Value} {dv : Value} (A : Arv Z h src ks .char 0 vs dv) :
    ConW l (⟨"java/lang/String", "<init>", "([C)V"⟩ : MethodName) jdk_42_method_3_code 2 none [] ({ frames := 2, cells := 4, slots := 8, locals := 29 } : Room) Z [("java/lang/String", 7)] #[.ref a, .ref src] h (fun v h' => v = none ∧ Keep h h' [a] ∧ StrL Z h' a []) := by
  refine con_introW (by first | exact plainFor_of_name pnS | decide +kernel) hE ?_
  intro p e s m below meth c T K I0 hret hlk hnm
  have ef : entryFrame m #[.ref a, .ref src] 2 = (mkF m 0 #[.val (.ref a), .val (.ref src)] []) := by first | (simp [entryFrame, mkF, argsToLocals, Value.category]; done) | rfl
  rw [ef]
  refine r_aloadN (pc' := 1) K dsc_0 rfl rfl rfl ?_
  refine r_aloadN (pc' := 2) K dsc_1 rfl rfl rfl ?_
  refine r_iconst (v := (0 : Int32)) (pc' := 3) K dsc_2 rfl (by decide) ?_
  refine r_aloadN (pc' := 4) K dsc_3 rfl rfl rfl ?_
  refine r_alen (pc' := 5) K A dsc_4 rfl ?_
  refine r_aconstNull (pc' := 6) K dsc_5 rfl ?_
  refine w_special (pc' := 9) (argsL := [.ref src, .int (0 : Int32), .int (0 : Int32), .null]) (rest := []) (W := 0) K I0 hEL (c_iVe l hw hE hEL ga E Fv Fc) rfl (hw _ (List.mem_of_getElem? (i := 16) rfl)) (hw _ (List.mem_of_getElem? (i := 17) rfl)) (hw _ (List.mem_of_getElem? (i := 8) rfl)) (hw _ (List.mem_of_getElem? (i := 19) rfl)) (by decide) pdSV rfl rfl rfl (Nat.le_refl _) (by decide) (by decide) (by decide) (by decide) dsc_6 rfl ?_
  rintro _ T1 h1' vm1 K1 I1 C1 ⟨rfl, Kp, F⟩
  exact w_retV K1 I1 hEL hret hlk dsc_9 (by decide) (by decide) ⟨rfl, Kp, F⟩
theorem pnLaw : plainName "com/example/ermine/ermine/model/NotationIsNamePinLaw" = true := by first | (simp [plainName, overriddenIn]; done) | decide +kernel
theorem pnN : plainName "com/example/ermine/ermine/model/Notation" = true := by first | (simp [plainName, overriddenIn]; done) | decide +kernel
theorem pnP : plainName "jdk/internal/util/Preconditions" = true := by first | (simp [plainName, overriddenIn]; done) | decide +kernel
/-- a char's value -/
def Ch (x : Int32) : Prop := 0 ≤ x.toInt ∧ x.toInt < 65536
def lo (c : Int32) : Int32 := (c >>> ((0 : Int32) &&& 31)).toInt8.toInt32
def hi (c : Int32) : Int32 := (c >>> ((8 : Int32) &&& 31)).toInt8.toInt32
theorem own_i2c (x : Int32) : Ch x.toUInt32.toUInt16.toUInt32.toInt32 := (c_i2c x).2
theorem own_nar {x : Int32} (h : Ch x) : nar .char x = x := by
  have q := c_i2c x
  apply Int32.toInt_inj.mp
  show x.toUInt32.toUInt16.toUInt32.toInt32.toInt = x.toInt
  obtain ⟨a, b⟩ := h
  omega
theorem own_narC {x : Int32} (h : Ch x) : narrow .char (.int x) = .int x := by
  have q := own_nar h
  show Value.int (nar .char x) = Value.int x
  rw [q]
theorem own_get16 {c : Int32} (h : Ch c) : (((lo c &&& (255 : Int32)) <<< ((0 : Int32) &&& 31)) ||| ((hi c &&& (255 : Int32)) <<< ((8 : Int32) &&& 31))).toUInt32.toUInt16.toUInt32.toInt32 = c := by
  obtain ⟨h0, h1⟩ := h
  have a1 := c_ishr c 0 0 (by decide)
  have a2 := c_ishr c 8 8 (by decide)
  have b1 := c_i2b (c >>> ((0 : Int32) &&& 31))
  have b2 := c_i2b (c >>> ((8 : Int32) &&& 31))
  have d1 := c_mask (lo c) 255 8 (by decide) (by decide)
  have d2 := c_mask (hi c) 255 8 (by decide) (by decide)
  have e1 := c_ishl (lo c &&& 255) 0 0 (by decide)
  have e2 := c_ishl (hi c &&& 255) 8 8 (by decide)
  have r1 := rng32 ((lo c &&& 255) <<< ((0 : Int32) &&& 31))
  have r2 := rng32 ((hi c &&& 255) <<< ((8 : Int32) &&& 31))
  have f := c_or' ((lo c &&& 255) <<< ((0 : Int32) &&& 31)) ((hi c &&& 255) <<< ((8 : Int32) &&& 31)) 8 (by decide) 256 rfl
  have r3 := rng32 (((lo c &&& 255) <<< ((0 : Int32) &&& 31)) ||| ((hi c &&& 255) <<< ((8 : Int32) &&& 31)))
  have i := c_i2c (((lo c &&& 255) <<< ((0 : Int32) &&& 31)) ||| ((hi c &&& 255) <<< ((8 : Int32) &&& 31)))
  change ((lo c).toInt - _) % 256 = 0 ∧ -128 ≤ (lo c).toInt ∧ (lo c).toInt < 128 at b1
  change ((hi c).toInt - _) % 256 = 0 ∧ -128 ≤ (hi c).toInt ∧ (hi c).toInt < 128 at b2
  apply Int32.toInt_inj.mp
  simp only [show ((2 ^ 0 : Nat) : Int) = 1 from rfl, show ((2 ^ 8 : Nat) : Int) = 256 from rfl] at *
  generalize (c >>> ((0 : Int32) &&& 31)).toInt = A1 at *
  generalize (c >>> ((8 : Int32) &&& 31)).toInt = A2 at *
  generalize (lo c).toInt = B1 at *
  generalize (hi c).toInt = B2 at *
  have L : (lo c &&& 255).toInt = c.toInt % 256 := by omega
  have H : (hi c &&& 255).toInt = c.toInt / 256 := by omega
  have L2 : ((lo c &&& 255) <<< ((0 : Int32) &&& 31)).toInt = c.toInt % 256 := by omega
  have H2 : ((hi c &&& 255) <<< ((8 : Int32) &&& 31)).toInt = c.toInt / 256 * 256 := by omega
  have q := f (by omega) (by omega) (by omega)
  omega
theorem own_get8 {c : Int32} (h : Ch c) (h2 : ¬ 255 < c) : (byt c &&& (255 : Int32)).toUInt32.toUInt16.toUInt32.toInt32 = c := by
  rw [i2c_mask]
  obtain ⟨h0, h1⟩ := h
  rw [Int32.lt_iff_toInt_lt] at h2
  have e : (255 : Int32).toInt = 255 := by decide
  have b1 := c_i2b c
  have d1 := c_mask (byt c) 255 8 (by decide) (by decide)
  apply Int32.toInt_inj.mp
  change ((byt c).toInt - _) % 256 = 0 ∧ -128 ≤ (byt c).toInt ∧ (byt c).toInt < 128 at b1
  simp only [show ((2 ^ 8 : Nat) : Int) = 256 from rfl] at d1
  omega
/-- the bytes of a wide String -/
def enc (cs : List Int32) : List Int32 := cs.flatMap fun c => [lo c, hi c]
theorem enc.len (cs : List Int32) : (enc cs).length = 2 * cs.length := by
  induction cs with
  | nil => rfl
  | cons c cs ih => simp only [enc, List.flatMap_cons, List.length_append, List.length_cons, List.length_nil] at ih ⊢; omega
theorem enc.at {cs : List Int32} {i : Nat} {x : Int32} (h : cs[i]? = some x) : (enc cs)[2 * i]? = some (lo x) ∧ (enc cs)[2 * i + 1]? = some (hi x) := by
  induction cs generalizing i with
  | nil => simp at h
  | cons c cs ih =>
    cases i with
    | zero => simp at h; subst h; exact ⟨rfl, rfl⟩
    | succ i =>
      have q := ih (i := i) (by simpa using h)
      simp only [enc, List.flatMap_cons] at q ⊢
      have e1 : 2 * (i + 1) = (2 * i) + 2 := by omega
      rw [e1]
      exact q
theorem own_two {i : Nat} (h : i ≤ 100) : Int32.ofNat i <<< ((1 : Int32) &&& 31) = Int32.ofNat (2 * i) := by
  have e := c_ishl (Int32.ofNat i) 1 1 (by decide)
  have r := rng32 (Int32.ofNat i <<< ((1 : Int32) &&& 31))
  apply Int32.toInt_inj.mp
  rw [own_ti (by omega)] at e
  rw [own_ti (by omega)]
  simp only [show ((2 ^ 1 : Nat) : Int) = 2 from rfl] at e
  omega
theorem own_half {i : Nat} (h : i ≤ 100) : Int32.ofNat (2 * i) >>> ((1 : Int32) &&& 31) = Int32.ofNat i := by
  have e := c_ishr (Int32.ofNat (2 * i)) 1 1 (by decide)
  apply Int32.toInt_inj.mp
  rw [own_ti (by omega)] at e
  rw [own_ti (by omega)]
  simp only [show ((2 ^ 1 : Nat) : Int) = 2 from rfl] at e
  omega
theorem own_shr0 (x : Int32) : x >>> ((0 : Int32) &&& 31) = x := by
  have e := c_ishr x 0 0 (by decide)
  apply Int32.toInt_inj.mp
  simp only [show ((2 ^ 0 : Nat) : Int) = 1 from rfl] at e
  omega
theorem own_cod1 {k : Nat} (h1 : 1 ≤ k) (h2 : k ≤ 100) : ((Int32.ofNat k - Int32.ofNat (2 * k)).toUInt32 >>> ((31 : Int32) &&& 31).toUInt32).toInt32.toInt8.toInt32 = 1 := by
  have e := c_iushr (Int32.ofNat k - Int32.ofNat (2 * k)) 31 31 (by decide) (by decide)
  have s := c_isub (Int32.ofNat k) (Int32.ofNat (2 * k))
  have r := rng32 (Int32.ofNat k - Int32.ofNat (2 * k))
  rw [own_ti (by omega), own_ti (by omega)] at s
  simp only [show ((2 ^ 31 : Nat) : Int) = 2147483648 from rfl] at e
  have q : ((Int32.ofNat k - Int32.ofNat (2 * k)).toUInt32 >>> ((31 : Int32) &&& 31).toUInt32).toInt32 = 1 := by
    apply Int32.toInt_inj.mp
    have : (1 : Int32).toInt = 1 := rfl
    omega
  rw [q]; rfl
theorem dnl_0 : decode jdk_52_method_3_code 0 = .ok (.iload_n 0, 1) := by decide +kernel
theorem dnl_1 : decode jdk_52_method_3_code 1 = .ok (.ifCond .ge 11, 3) := by decide +kernel
theorem dnl_12 : decode jdk_52_method_3_code 12 = .ok (.iload_n 0, 1) := by decide +kernel
theorem dnl_13 : decode jdk_52_method_3_code 13 = .ok (.ldc 20, 2) := by decide +kernel
theorem dnl_15 : decode jdk_52_method_3_code 15 = .ok (.if_icmp .lt 40, 3) := by decide +kernel
theorem dnl_55 : decode jdk_52_method_3_code 55 = .ok (.iload_n 0, 1) := by decide +kernel
theorem dnl_56 : decode jdk_52_method_3_code 56 = .ok (.iconst 1, 1) := by decide +kernel
theorem dnl_57 : decode jdk_52_method_3_code 57 = .ok (.ishl, 1) := by decide +kernel
theorem dnl_58 : decode jdk_52_method_3_code 58 = .ok (.ireturn, 1) := by decide +kernel
theorem dnf_0 : decode jdk_52_method_2_code 0 = .ok (.iload_n 0, 1) := by decide +kernel
theorem dnf_1 : decode jdk_52_method_2_code 1 = .ok (.invokestatic 11, 3) := by decide +kernel
theorem dnf_4 : decode jdk_52_method_2_code 4 = .ok (.newarray .byte, 2) := by decide +kernel
theorem dnf_6 : decode jdk_52_method_2_code 6 = .ok (.areturn, 1) := by decide +kernel
theorem pdII : parseMethodDescriptor "(I)I" = some ⟨[.int], some .int⟩ := by decide +kernel
theorem pdIB : parseMethodDescriptor "(I)[B" = some ⟨[.int], some (.array .byte)⟩ := by decide +kernel
theorem pdPC : parseMethodDescriptor "([BII)V" = some ⟨[(.array .byte), .int, .int], none⟩ := by decide +kernel
theorem pdGC : parseMethodDescriptor "([BI)C" = some ⟨[(.array .byte), .int], some .char⟩ := by decide +kernel
theorem pdIBV : parseMethodDescriptor "(I[B)V" = some ⟨[.int, (.array .byte)], none⟩ := by decide +kernel
theorem pdBI : parseMethodDescriptor "([B)I" = some ⟨[(.array .byte)], some .int⟩ := by decide +kernel
theorem pdIIV : parseMethodDescriptor "(II)V" = some ⟨[.int, .int], none⟩ := by decide +kernel
theorem pdPCI : parseMethodDescriptor "(IILjava/util/function/BiFunction;)I" = some ⟨[.int, .int, (.object "java/util/function/BiFunction")], some .int⟩ := by decide +kernel
theorem pdZ : parseMethodDescriptor "()Z" = some ⟨[], some .boolean⟩ := by decide +kernel
theorem pdI : parseMethodDescriptor "()I" = some ⟨[], some .int⟩ := by decide +kernel
theorem pdB : parseMethodDescriptor "()B" = some ⟨[], some .byte⟩ := by decide +kernel
theorem pdCA : parseMethodDescriptor "(I)C" = some ⟨[.int], some .char⟩ := by decide +kernel
theorem pdMK : parseMethodDescriptor "(ICCCC)[C" = some ⟨[.int, .char, .char, .char, .char], some (.array .char)⟩ := by decide +kernel
theorem pdNC : parseMethodDescriptor "(C)Z" = some ⟨[.char], some .boolean⟩ := by decide +kernel
theorem pdSZ : parseMethodDescriptor "(Ljava/lang/String;)Z" = some ⟨[(.object "java/lang/String")], some .boolean⟩ := by decide +kernel
theorem own_big {k : Nat} (h : k ≤ 4) : Int32.ofNat k < (1073741823 : Int32) := by
  rw [Int32.lt_iff_toInt_lt, own_ti (by omega)]
  have : (1073741823 : Int32).toInt = 1073741823 := by decide
  omega
set_option maxRecDepth 65536 in
set_option maxHeartbeats 4000000 in
theorem u_len (l : Launch) {Z : State} {a0 : Array Value} (hw : ∀ d ∈ tables_1, d.before a0 Z = true) {h : Heap} (hE : Ext Z.heap h) {k0 : Nat} (hk0 : k0 ≤ 4) :
    Con l (⟨"java/lang/StringUTF16", "newBytesLength", "(I)I"⟩ : MethodName) jdk_52_method_3_code 1 (some .int) [] ({ frames := 0, cells := 0, slots := 0, locals := 0 } : Room) Z #[.int (Int32.ofNat k0)] h (fun v h' => v = some (.int (Int32.ofNat (2 * k0))) ∧ h' = h) := by
  refine con_intro (by first | exact plainFor_of_name pnU | decide +kernel) hE ?_
  intro p e s m below meth c T K hret hlk hnm
  have ef : entryFrame m #[.int (Int32.ofNat k0)] 1 = (mkF m 0 #[.val (.int (Int32.ofNat k0))] []) := by first | (simp [entryFrame, mkF, argsToLocals, Value.category]; done) | rfl
  rw [ef]
  refine r_iloadN (pc' := 1) K dnl_0 rfl rfl ?_
  refine r_if (pc1 := 4) (pc2 := 12) K dnl_1 rfl (by decide) (by decide) ?_ ?_
  · intro (hc : ¬ (Int32.ofNat k0) < (0 : Int32))
    refine r_iloadN (pc' := 13) K dnl_12 rfl rfl ?_
    refine r_ldcI (pc' := 15) K (hw _ (List.mem_of_getElem? (i := 95) rfl)) dnl_13 rfl ?_
    refine r_icmp (pc1 := 18) (pc2 := 55) K dnl_15 rfl (by decide) (by decide) ?_ ?_
    · intro (hc2 : (Int32.ofNat k0) < (1073741823 : Int32))
      refine r_iloadN (pc' := 56) K dnl_55 rfl rfl ?_
      refine r_iconst (v := (1 : Int32)) (pc' := 57) K dnl_56 rfl (by decide) ?_
      refine r_ishl (pc' := 58) K dnl_57 rfl ?_
      rw [own_two (by omega)]
      exact r_retI K hret hlk dnl_58 (by decide) (by decide) ⟨rfl, rfl⟩
    · intro (hc2 : ¬ (Int32.ofNat k0) < (1073741823 : Int32))
      exact absurd (own_big hk0) hc2
  · intro (hc : (Int32.ofNat k0) < (0 : Int32))
    exact absurd hc (own_nn (by omega))
set_option maxRecDepth 65536 in
set_option maxHeartbeats 4000000 in
theorem u_new (l : Launch) {Z : State} {a0 : Array Value} (hw : ∀ d ∈ tables_1, d.before a0 Z = true) {h : Heap} (hE : Ext Z.heap h) {k0 : Nat} (hk0 : k0 ≤ 4) :
    Con l (⟨"java/lang/StringUTF16", "newBytesFor", "(I)[B"⟩ : MethodName) jdk_52_method_2_code 1 (some (.array .byte)) [] ({ frames := 1, cells := 1, slots := 8, locals := 12 } : Room) Z #[.int (Int32.ofNat k0)] h (fun v h' => ∃ b k, v = some (.ref b) ∧ h.size ≤ b ∧ Ext h h' ∧ Arv Z h' b k .byte (Int32.ofNat (2 * k0)) [] (.int 0)) := by
  refine con_intro (by first | exact plainFor_of_name pnU | decide +kernel) hE ?_
  intro p e s m below meth c T K hret hlk hnm
  have ef : entryFrame m #[.int (Int32.ofNat k0)] 1 = (mkF m 0 #[.val (.int (Int32.ofNat k0))] []) := by first | (simp [entryFrame, mkF, argsToLocals, Value.category]; done) | rfl
  rw [ef]
  refine r_iloadN (pc' := 1) K dnf_0 rfl rfl ?_
  refine r_static (pc' := 4) (argsL := [.int (Int32.ofNat k0)]) (rest := []) (W := 0) K (u_len l hw hE hk0) (hw _ (List.mem_of_getElem? (i := 92) rfl)) (hw _ (List.mem_of_getElem? (i := 93) rfl)) (hw _ (List.mem_of_getElem? (i := 43) rfl)) (hw _ (List.mem_of_getElem? (i := 94) rfl)) (by decide) pdII rfl rfl rfl (Nat.le_refl _) (by decide) (by decide) (by decide) (by decide) dnf_1 rfl ?_
  rintro _ T1 _ K1 ⟨rfl, rfl⟩
  refine r_newarr (pc' := 6) (cap := 8) K1 (hw _ (List.mem_of_getElem? (i := 24) rfl)) dnf_4 rfl (own_nn (by omega)) (by rw [own_n32 (by omega)]; omega) (by decide) (by decide) (by decide) ?_
  intro T2 h2 b k hb K2 E2 A2
  exact r_retA K2 hret hlk rfl rfl dnf_6 (by decide) (by decide) ⟨b, k, rfl, Nat.le_of_eq hb.symm, E2, A2⟩
theorem dpc_0 : decode jdk_52_method_4_code 0 = .ok (.getstatic 44, 3) := by decide +kernel
theorem dpc_3 : decode jdk_52_method_4_code 3 = .ok (.ifCond .ne 25, 3) := by decide +kernel
theorem dpc_28 : decode jdk_52_method_4_code 28 = .ok (.iload_n 1, 1) := by decide +kernel
theorem dpc_29 : decode jdk_52_method_4_code 29 = .ok (.iconst 1, 1) := by decide +kernel
theorem dpc_30 : decode jdk_52_method_4_code 30 = .ok (.ishl, 1) := by decide +kernel
theorem dpc_31 : decode jdk_52_method_4_code 31 = .ok (.istore_n 1, 1) := by decide +kernel
theorem dpc_32 : decode jdk_52_method_4_code 32 = .ok (.aload_n 0, 1) := by decide +kernel
theorem dpc_33 : decode jdk_52_method_4_code 33 = .ok (.iload_n 1, 1) := by decide +kernel
theorem dpc_34 : decode jdk_52_method_4_code 34 = .ok (.iinc 1 1, 3) := by decide +kernel
theorem dpc_37 : decode jdk_52_method_4_code 37 = .ok (.iload_n 2, 1) := by decide +kernel
theorem dpc_38 : decode jdk_52_method_4_code 38 = .ok (.getstatic 59, 3) := by decide +kernel
theorem dpc_41 : decode jdk_52_method_4_code 41 = .ok (.ishr, 1) := by decide +kernel
theorem dpc_42 : decode jdk_52_method_4_code 42 = .ok (.i2b, 1) := by decide +kernel
theorem dpc_43 : decode jdk_52_method_4_code 43 = .ok (.bastore, 1) := by decide +kernel
theorem dpc_44 : decode jdk_52_method_4_code 44 = .ok (.aload_n 0, 1) := by decide +kernel
theorem dpc_45 : decode jdk_52_method_4_code 45 = .ok (.iload_n 1, 1) := by decide +kernel
theorem dpc_46 : decode jdk_52_method_4_code 46 = .ok (.iload_n 2, 1) := by decide +kernel
theorem dpc_47 : decode jdk_52_method_4_code 47 = .ok (.getstatic 63, 3) := by decide +kernel
theorem dpc_50 : decode jdk_52_method_4_code 50 = .ok (.ishr, 1) := by decide +kernel
theorem dpc_51 : decode jdk_52_method_4_code 51 = .ok (.i2b, 1) := by decide +kernel
theorem dpc_52 : decode jdk_52_method_4_code 52 = .ok (.bastore, 1) := by decide +kernel
theorem dpc_53 : decode jdk_52_method_4_code 53 = .ok (.return_, 1) := by decide +kernel
set_option maxRecDepth 65536 in
set_option maxHeartbeats 4000000 in
theorem u_put (l : Launch) {Z : State} {a0 : Array Value} (hw : ∀ d ∈ tables_1, d.before a0 Z = true) {h : Heap} (hE : Ext Z.heap h) (Sad : Sta Z Z.heap "java/lang/StringUTF16" "$assertionsDisabled" "Z" (.int 1)) (Shi : Sta Z Z.heap "java/lang/StringUTF16" "HI_BYTE_SHIFT" "I" (.int 0)) (Slo : Sta Z Z.heap "java/lang/StringUTF16" "LO_BYTE_SHIFT" "I" (.int 8)) {b : Addr} {kb : ClassId} {vs : List Value} {i k0 : Nat} {x : Int32} (gb : Z.heap.size ≤ b) (hk0 : k0 ≤ 4) (hi : i < k0) (hvl : vs.length = 2 * k0) (A : Arv Z h b kb .byte (Int32.ofNat (2 * k0)) vs (.int 0)) :
    Con l (⟨"java/lang/StringUTF16", "putChar", "([BII)V"⟩ : MethodName) jdk_52_method_4_code 3 none [] ({ frames := 0, cells := 0, slots := 0, locals := 0 } : Room) Z #[.ref b, .int (Int32.ofNat i), .int x] h (fun v h' => v = none ∧ Keep h h' [b] ∧ Arv Z h' b kb .byte (Int32.ofNat (2 * k0)) ((vs.set (2 * i) (.int (Jvm.Pilot.@@N@@.lo x))).set (2 * i + 1) (.int (Jvm.Pilot.@@N@@.hi x))) (.int 0)) := by
  refine con_intro (by first | exact plainFor_of_name pnU | decide +kernel) hE ?_
  intro p e s m below meth c T K hret hlk hnm
  have ef : entryFrame m #[.ref b, .int (Int32.ofNat i), .int x] 3 = (mkF m 0 #[.val (.ref b), .val (.int (Int32.ofNat i)), .val (.int x)] []) := by first | (simp [entryFrame, mkF, argsToLocals, Value.category]; done) | rfl
  rw [ef]
  refine r_getS (pc' := 3) K (hw _ (List.mem_of_getElem? (i := 99) rfl)) (Sad.ext K.ext) dpc_0 rfl ?_
  intro T1 K1
  refine r_if (pc1 := 6) (pc2 := 28) K1 dpc_3 rfl (by decide) (by decide) ?_ ?_
  · intro (hc : ¬ (1 : Int32) = (0 : Int32))
    refine r_iloadN (pc' := 29) K1 dpc_28 rfl rfl ?_
    refine r_iconst (v := (1 : Int32)) (pc' := 30) K1 dpc_29 rfl (by decide) ?_
    refine r_ishl (pc' := 31) K1 dpc_30 rfl ?_
    rw [own_two (by omega)]
    refine r_istoreN (Ls' := #[.val (.ref b), .val (.int (Int32.ofNat (2 * i))), .val (.int x)]) (pc' := 32) K1 dpc_31 rfl rfl ?_
    refine r_aloadN (pc' := 33) K1 dpc_32 rfl rfl rfl ?_
    refine r_iloadN (pc' := 34) K1 dpc_33 rfl rfl ?_
    refine r_iinc (v := (1 : Int32)) (Ls' := #[.val (.ref b), .val (.int ((Int32.ofNat (2 * i)) + (1 : Int32))), .val (.int x)]) (pc' := 37) K1 dpc_34 rfl (by decide) rfl rfl ?_
    rw [own_one]
    refine r_iloadN (pc' := 38) K1 dpc_37 rfl rfl ?_
    refine r_getS (pc' := 41) K1 (hw _ (List.mem_of_getElem? (i := 100) rfl)) (Shi.ext K.ext) dpc_38 rfl ?_
    intro T2 K2
    refine r_ishr (pc' := 42) K2 dpc_41 rfl ?_
    refine r_i2b (pc' := 43) K2 dpc_42 rfl ?_
    refine r_bastore (pc' := 44) (i := 2 * i) K2 A gb ⟨own_nn (by omega), own_lt (by omega) (by omega)⟩ (own_n32 (by omega)) (by omega) dpc_43 rfl ?_
    intro T3 h3 K3 W3 A3
    rw [own_b8] at A3
    refine r_aloadN (pc' := 45) K3 dpc_44 rfl rfl rfl ?_
    refine r_iloadN (pc' := 46) K3 dpc_45 rfl rfl ?_
    refine r_iloadN (pc' := 47) K3 dpc_46 rfl rfl ?_
    refine r_getS (pc' := 50) K3 (hw _ (List.mem_of_getElem? (i := 101) rfl)) (Slo.ext K3.ext) dpc_47 rfl ?_
    intro T4 K4
    refine r_ishr (pc' := 51) K4 dpc_50 rfl ?_
    refine r_i2b (pc' := 52) K4 dpc_51 rfl ?_
    refine r_bastore (pc' := 53) (i := 2 * i + 1) K4 A3 gb ⟨own_nn (by omega), own_lt (by omega) (by omega)⟩ (own_n32 (by omega)) (by rw [List.length_set]; omega) dpc_52 rfl ?_
    intro T5 h5 K5 W5 A5
    rw [own_b8] at A5
    exact r_retV K5 hret hlk dpc_53 (by decide) (by decide) ⟨rfl, ((Keep.refl _ _).wr W3 (Or.inl (List.mem_of_getElem? (i := 0) rfl))).wr W5 (Or.inl (List.mem_of_getElem? (i := 0) rfl)), A5⟩
  · intro (hc : (1 : Int32) = (0 : Int32))
    exact absurd hc (by decide)
theorem dtb_0 : decode jdk_52_method_14_code 0 = .ok (.iload_n 2, 1) := by decide +kernel
theorem dtb_1 : decode jdk_52_method_14_code 1 = .ok (.invokestatic 107, 3) := by decide +kernel
theorem dtb_4 : decode jdk_52_method_14_code 4 = .ok (.astore_n 3, 1) := by decide +kernel
theorem dtb_5 : decode jdk_52_method_14_code 5 = .ok (.iconst 0, 1) := by decide +kernel
theorem dtb_6 : decode jdk_52_method_14_code 6 = .ok (.istore 4, 2) := by decide +kernel
theorem dtb_8 : decode jdk_52_method_14_code 8 = .ok (.iload 4, 2) := by decide +kernel
theorem dtb_10 : decode jdk_52_method_14_code 10 = .ok (.iload_n 2, 1) := by decide +kernel
theorem dtb_11 : decode jdk_52_method_14_code 11 = .ok (.if_icmp .ge 21, 3) := by decide +kernel
theorem dtb_14 : decode jdk_52_method_14_code 14 = .ok (.aload_n 3, 1) := by decide +kernel
theorem dtb_15 : decode jdk_52_method_14_code 15 = .ok (.iload 4, 2) := by decide +kernel
theorem dtb_17 : decode jdk_52_method_14_code 17 = .ok (.aload_n 0, 1) := by decide +kernel
theorem dtb_18 : decode jdk_52_method_14_code 18 = .ok (.iload_n 1, 1) := by decide +kernel
theorem dtb_19 : decode jdk_52_method_14_code 19 = .ok (.caload, 1) := by decide +kernel
theorem dtb_20 : decode jdk_52_method_14_code 20 = .ok (.invokestatic 111, 3) := by decide +kernel
theorem dtb_23 : decode jdk_52_method_14_code 23 = .ok (.iinc 1 1, 3) := by decide +kernel
theorem dtb_26 : decode jdk_52_method_14_code 26 = .ok (.iinc 4 1, 3) := by decide +kernel
theorem dtb_29 : decode jdk_52_method_14_code 29 = .ok (.goto (-21), 3) := by decide +kernel
theorem dtb_32 : decode jdk_52_method_14_code 32 = .ok (.aload_n 3, 1) := by decide +kernel
theorem dtb_33 : decode jdk_52_method_14_code 33 = .ok (.areturn, 1) := by decide +kernel
/-- the wide bytes when i signs are written -/
def own_w (cs : List Int32) (i : Nat) : List Value := (enc (cs.take i)).map Value.int ++ List.replicate (2 * (cs.length - i)) (.int 0)
theorem own_w0 (cs : List Int32) : own_w cs 0 = List.replicate (2 * cs.length) (.int 0) := by simp [own_w, enc]
theorem own_wn (cs : List Int32) : own_w cs cs.length = (enc cs).map Value.int := by simp [own_w]
theorem own_wl (cs : List Int32) {i : Nat} (hi : i ≤ cs.length) : (own_w cs i).length = 2 * cs.length := by
  simp only [own_w, List.length_append, List.length_map, enc.len, List.length_take, List.length_replicate]; omega
theorem own_ws {cs : List Int32} {i : Nat} {x : Int32} (h : cs[i]? = some x) : ((own_w cs i).set (2 * i) (.int (lo x))).set (2 * i + 1) (.int (Jvm.Pilot.@@N@@.hi x)) = own_w cs (i + 1) := by
  have hi := (List.getElem?_eq_some_iff.mp h).1
  obtain ⟨d, hd⟩ : ∃ d, cs.length - i = d + 1 := ⟨cs.length - i - 1, by omega⟩
  have hd2 : cs.length - (i + 1) = d := by omega
  have hl : ((enc (cs.take i)).map Value.int).length = 2 * i := by rw [List.length_map, enc.len, List.length_take]; omega
  have e1 : enc (cs.take (i + 1)) = enc (cs.take i) ++ [lo x, Jvm.Pilot.@@N@@.hi x] := by rw [List.take_add_one, h]; simp [enc]
  unfold own_w
  rw [hd, hd2, e1, show 2 * (d + 1) = 2 * d + 1 + 1 by omega, List.replicate_succ, List.replicate_succ, List.set_append, if_neg (by omega), hl, Nat.sub_self, List.set_cons_zero, List.set_append, if_neg (by omega), hl, show 2 * i + 1 - 2 * i = 1 by omega, List.set_cons_succ, List.set_cons_zero, List.map_append]
  simp
section Lq
variable {Z : State} {a0 : Array Value} {p : Program} {l : Launch} {e : Env} {R : Room} {s : State} {m : MethodId} {args : Array Value} {below : List Frame} {meth : Method} {c : Code} {T : State} {h : Heap} {cells slots : Nat} {P : State → Prop}
set_option maxRecDepth 65536 in
set_option maxHeartbeats 4000000 in
theorem u_loop (hw : ∀ d ∈ tables_1, d.before a0 Z = true) (Sad : Sta Z Z.heap "java/lang/StringUTF16" "$assertionsDisabled" "Z" (.int 1)) (Shi : Sta Z Z.heap "java/lang/StringUTF16" "HI_BYTE_SHIFT" "I" (.int 0)) (Slo : Sta Z Z.heap "java/lang/StringUTF16" "LO_BYTE_SHIFT" "I" (.int 8)) {src b : Addr} {ks kb : ClassId} {cs : List Int32} (hn : cs.length ≤ 4) (gb : Z.heap.size ≤ b) (hsb : src ≠ b) (hfr : 0 + 1 ≤ R.frames) (hlo : 0 + (3 + 11) + 0 ≤ R.locals) (hce : cells ≤ R.cells) (hsl : slots ≤ R.slots)
    (hk : ∀ T' h', St Z "java/lang/StringUTF16" jdk_52_method_14_code 5 p l e R s m args below meth c T' h' cells slots → Keep h h' [b] → Arv Z h' b kb .byte (Int32.ofNat (2 * cs.length)) ((enc cs).map Value.int) (.int 0) → Run p e below P T' (mkF m 32 #[.val (.ref src), .val (.int (Int32.ofNat cs.length)), .val (.int (Int32.ofNat cs.length)), .val (.ref b), .val (.int (Int32.ofNat cs.length))] [])) :
    ∀ (k i : Nat) (T : State) (h' : Heap), i + k = cs.length → St Z "java/lang/StringUTF16" jdk_52_method_14_code 5 p l e R s m args below meth c T h' cells slots → Keep h h' [b] → Arv Z h' src ks .char (Int32.ofNat cs.length) (cs.map Value.int) (.int 0) → Arv Z h' b kb .byte (Int32.ofNat (2 * cs.length)) (own_w cs i) (.int 0) → Run p e below P T (mkF m 8 #[.val (.ref src), .val (.int (Int32.ofNat i)), .val (.int (Int32.ofNat cs.length)), .val (.ref b), .val (.int (Int32.ofNat i))] []) := by
  intro k
  induction k with
  | zero =>
    intro i T h' hi K Kp A D
    obtain rfl : i = cs.length := by omega
    refine r_iload (pc' := 10) K dtb_8 rfl rfl ?_
    refine r_iloadN (pc' := 11) K dtb_10 rfl rfl ?_
    refine r_icmp (pc1 := 14) (pc2 := 32) K dtb_11 rfl (by decide) (by decide) ?_ ?_
    · intro (hc : ¬ (Int32.ofNat cs.length) < (Int32.ofNat cs.length))
      exact hk T h' K Kp (by rw [← own_wn]; exact D)
    · intro (hc : (Int32.ofNat cs.length) < (Int32.ofNat cs.length))
      exact absurd hc Int32.lt_irrefl
  | succ k ih =>
    intro i T h' hi K Kp A D
    refine r_iload (pc' := 10) K dtb_8 rfl rfl ?_
    refine r_iloadN (pc' := 11) K dtb_10 rfl rfl ?_
    refine r_icmp (pc1 := 14) (pc2 := 32) K dtb_11 rfl (by decide) (by decide) ?_ ?_
    · intro (hc : ¬ (Int32.ofNat i) < (Int32.ofNat cs.length))
      exact absurd (own_lt (by omega) (by omega)) hc
    · intro (hc : (Int32.ofNat i) < (Int32.ofNat cs.length))
      obtain ⟨x, hx⟩ := own_get (xs := cs) (j := i) (by omega)
      refine r_aloadN (pc' := 15) K dtb_14 rfl rfl rfl ?_
      refine r_iload (pc' := 17) K dtb_15 rfl rfl ?_
      refine r_aloadN (pc' := 18) K dtb_17 rfl rfl rfl ?_
      refine r_iloadN (pc' := 19) K dtb_18 rfl rfl ?_
      refine r_caload (pc' := 20) (v := .int x) K A ⟨own_nn (by omega), own_lt (by omega) (by omega)⟩ (by rw [own_n32 (by omega)]; exact own_gv hx) dtb_19 rfl ?_
      refine r_static (pc' := 23) (argsL := [.ref b, .int (Int32.ofNat i), .int x]) (rest := []) (W := 0) K (u_put l hw K.ext Sad Shi Slo gb (by omega) (by omega : i < cs.length) (own_wl cs (by omega)) D) (hw _ (List.mem_of_getElem? (i := 96) rfl)) (hw _ (List.mem_of_getElem? (i := 97) rfl)) (hw _ (List.mem_of_getElem? (i := 43) rfl)) (hw _ (List.mem_of_getElem? (i := 98) rfl)) (by decide) pdPC rfl rfl rfl (Nat.le_refl _) hfr hlo (by show cells + 0 ≤ _; omega) (by show slots + 0 ≤ _; omega) dtb_20 rfl ?_
      rintro _ T2 h2 K2 ⟨rfl, Kp2, D2⟩
      rw [own_ws hx] at D2
      refine r_iinc (v := (1 : Int32)) (Ls' := #[.val (.ref src), .val (.int ((Int32.ofNat i) + (1 : Int32))), .val (.int (Int32.ofNat cs.length)), .val (.ref b), .val (.int (Int32.ofNat i))]) (pc' := 26) K2 dtb_23 rfl (by decide) rfl rfl ?_
      refine r_iinc (v := (1 : Int32)) (Ls' := #[.val (.ref src), .val (.int ((Int32.ofNat i) + (1 : Int32))), .val (.int (Int32.ofNat cs.length)), .val (.ref b), .val (.int ((Int32.ofNat i) + (1 : Int32)))]) (pc' := 29) K2 dtb_26 rfl (by decide) rfl rfl ?_
      simp only [own_one]
      refine r_goto (pc' := 8) K2 dtb_29 (by decide) (by decide) ?_
      exact ih (i + 1) T2 h2 (by omega) K2 (Kp.trans Kp2 (fun x hx => Or.inl hx)) (A.keep Kp2 (ninS hsb nin0)) D2
end Lq
set_option maxRecDepth 65536 in
set_option maxHeartbeats 4000000 in
theorem u_tob (l : Launch) {Z : State} {a0 : Array Value} (hw : ∀ d ∈ tables_1, d.before a0 Z = true) {h : Heap} (hE : Ext Z.heap h) (Sad : Sta Z Z.heap "java/lang/StringUTF16" "$assertionsDisabled" "Z" (.int 1)) (Shi : Sta Z Z.heap "java/lang/StringUTF16" "HI_BYTE_SHIFT" "I" (.int 0)) (Slo : Sta Z Z.heap "java/lang/StringUTF16" "LO_BYTE_SHIFT" "I" (.int 8)) {src : Addr} {ks : ClassId} {cs : List Int32} (hn : cs.length ≤ 4) (A : Arv Z h src ks .char (Int32.ofNat cs.length) (cs.map Value.int) (.int 0)) :
    Con l (⟨"java/lang/StringUTF16", "toBytes", "([CII)[B"⟩ : MethodName) jdk_52_method_14_code 5 (some (.array .byte)) [] ({ frames := 2, cells := 1, slots := 8, locals := 24 } : Room) Z #[.ref src, .int 0, .int (Int32.ofNat cs.length)] h (fun v h' => ∃ b k, v = some (.ref b) ∧ h.size ≤ b ∧ Ext h h' ∧ Arv Z h' b k .byte (Int32.ofNat (2 * cs.length)) ((enc cs).map Value.int) (.int 0)) := by
  refine con_intro (by first | exact plainFor_of_name pnU | decide +kernel) hE ?_
  intro p e s m below meth c T K hret hlk hnm
  have ef : entryFrame m #[.ref src, .int 0, .int (Int32.ofNat cs.length)] 5 = (mkF m 0 #[.val (.ref src), .val (.int (0 : Int32)), .val (.int (Int32.ofNat cs.length)), .unset, .unset] []) := by first | (simp [entryFrame, mkF, argsToLocals, Value.category]; done) | rfl
  rw [ef]
  refine r_iloadN (pc' := 1) K dtb_0 rfl rfl ?_
  refine r_static (pc' := 4) (argsL := [.int (Int32.ofNat cs.length)]) (rest := []) (W := 0) K (u_new l hw hE hn) (hw _ (List.mem_of_getElem? (i := 89) rfl)) (hw _ (List.mem_of_getElem? (i := 90) rfl)) (hw _ (List.mem_of_getElem? (i := 43) rfl)) (hw _ (List.mem_of_getElem? (i := 91) rfl)) (by decide) pdIB rfl rfl rfl (Nat.le_refl _) (by decide) (by decide) (by decide) (by decide) dtb_1 rfl ?_
  rintro _ T1 h1 K1 ⟨b, kb, rfl, hb1, E1, A1⟩
  refine r_astoreN (Ls' := #[.val (.ref src), .val (.int (0 : Int32)), .val (.int (Int32.ofNat cs.length)), .val (.ref b), .unset]) (pc' := 5) K1 dtb_4 rfl rfl rfl ?_
  refine r_iconst (v := (0 : Int32)) (pc' := 6) K1 dtb_5 rfl (by decide) ?_
  refine r_istore (Ls' := #[.val (.ref src), .val (.int (0 : Int32)), .val (.int (Int32.ofNat cs.length)), .val (.ref b), .val (.int (0 : Int32))]) (pc' := 8) K1 dtb_6 rfl rfl ?_
  have hsb : src ≠ b := Nat.ne_of_lt (Nat.lt_of_lt_of_le A.lt hb1)
  refine u_loop (h := h1) hw Sad Shi Slo hn (Nat.le_trans K.sz hb1) hsb (by decide) (by decide) (by decide) (by decide) ?_ cs.length 0 T1 h1 (by omega) K1 (Keep.refl _ _) (A.ext E1) (by rw [own_w0]; exact A1.pad (by intro i; simp [List.getD_eq_getElem?_getD, List.getElem?_replicate]; split <;> rfl))
  intro T2 h2 K2 Kp2 D2
  refine r_aloadN (pc' := 33) K2 dtb_32 rfl rfl rfl ?_
  exact r_retA K2 hret hlk rfl rfl dtb_33 (by decide) (by decide) ⟨b, kb, rfl, hb1, ext_keep E1 Kp2 (allS hb1 all0), D2⟩
theorem dgc_0 : decode jdk_52_method_5_code 0 = .ok (.getstatic 44, 3) := by decide +kernel
theorem dgc_3 : decode jdk_52_method_5_code 3 = .ok (.ifCond .ne 25, 3) := by decide +kernel
theorem dgc_28 : decode jdk_52_method_5_code 28 = .ok (.iload_n 1, 1) := by decide +kernel
theorem dgc_29 : decode jdk_52_method_5_code 29 = .ok (.iconst 1, 1) := by decide +kernel
theorem dgc_30 : decode jdk_52_method_5_code 30 = .ok (.ishl, 1) := by decide +kernel
theorem dgc_31 : decode jdk_52_method_5_code 31 = .ok (.istore_n 1, 1) := by decide +kernel
theorem dgc_32 : decode jdk_52_method_5_code 32 = .ok (.aload_n 0, 1) := by decide +kernel
theorem dgc_33 : decode jdk_52_method_5_code 33 = .ok (.iload_n 1, 1) := by decide +kernel
theorem dgc_34 : decode jdk_52_method_5_code 34 = .ok (.iinc 1 1, 3) := by decide +kernel
theorem dgc_37 : decode jdk_52_method_5_code 37 = .ok (.baload, 1) := by decide +kernel
theorem dgc_38 : decode jdk_52_method_5_code 38 = .ok (.sipush 255, 3) := by decide +kernel
theorem dgc_41 : decode jdk_52_method_5_code 41 = .ok (.iand, 1) := by decide +kernel
theorem dgc_42 : decode jdk_52_method_5_code 42 = .ok (.getstatic 59, 3) := by decide +kernel
theorem dgc_45 : decode jdk_52_method_5_code 45 = .ok (.ishl, 1) := by decide +kernel
theorem dgc_46 : decode jdk_52_method_5_code 46 = .ok (.aload_n 0, 1) := by decide +kernel
theorem dgc_47 : decode jdk_52_method_5_code 47 = .ok (.iload_n 1, 1) := by decide +kernel
theorem dgc_48 : decode jdk_52_method_5_code 48 = .ok (.baload, 1) := by decide +kernel
theorem dgc_49 : decode jdk_52_method_5_code 49 = .ok (.sipush 255, 3) := by decide +kernel
theorem dgc_52 : decode jdk_52_method_5_code 52 = .ok (.iand, 1) := by decide +kernel
theorem dgc_53 : decode jdk_52_method_5_code 53 = .ok (.getstatic 63, 3) := by decide +kernel
theorem dgc_56 : decode jdk_52_method_5_code 56 = .ok (.ishl, 1) := by decide +kernel
theorem dgc_57 : decode jdk_52_method_5_code 57 = .ok (.ior, 1) := by decide +kernel
theorem dgc_58 : decode jdk_52_method_5_code 58 = .ok (.i2c, 1) := by decide +kernel
theorem dgc_59 : decode jdk_52_method_5_code 59 = .ok (.ireturn, 1) := by decide +kernel
set_option maxRecDepth 65536 in
set_option maxHeartbeats 4000000 in
theorem u_get (l : Launch) {Z : State} {a0 : Array Value} (hw : ∀ d ∈ tables_1, d.before a0 Z = true) {h : Heap} (hE : Ext Z.heap h) (Sad : Sta Z Z.heap "java/lang/StringUTF16" "$assertionsDisabled" "Z" (.int 1)) (Shi : Sta Z Z.heap "java/lang/StringUTF16" "HI_BYTE_SHIFT" "I" (.int 0)) (Slo : Sta Z Z.heap "java/lang/StringUTF16" "LO_BYTE_SHIFT" "I" (.int 8)) {b : Addr} {kb : ClassId} {cs : List Int32} (hn : cs.length ≤ 4) (A : Arv Z h b kb .byte (Int32.ofNat (2 * cs.length)) ((enc cs).map Value.int) (.int 0)) {i : Nat} {x : Int32} (hx : cs[i]? = some x) (hch : Ch x) :
    Con l (⟨"java/lang/StringUTF16", "getChar", "([BI)C"⟩ : MethodName) jdk_52_method_5_code 2 (some .char) [] ({ frames := 0, cells := 0, slots := 0, locals := 0 } : Room) Z #[.ref b, .int (Int32.ofNat i)] h (fun v h' => v = some (.int x) ∧ h' = h) := by
  refine con_intro (by first | exact plainFor_of_name pnU | decide +kernel) hE ?_
  intro p e s m below meth c T K hret hlk hnm
  have ef : entryFrame m #[.ref b, .int (Int32.ofNat i)] 2 = (mkF m 0 #[.val (.ref b), .val (.int (Int32.ofNat i))] []) := by first | (simp [entryFrame, mkF, argsToLocals, Value.category]; done) | rfl
  rw [ef]
  have hi := (List.getElem?_eq_some_iff.mp hx).1
  refine r_getS (pc' := 3) K (hw _ (List.mem_of_getElem? (i := 99) rfl)) (Sad.ext K.ext) dgc_0 rfl ?_
  intro T1 K1
  refine r_if (pc1 := 6) (pc2 := 28) K1 dgc_3 rfl (by decide) (by decide) ?_ ?_
  · intro (hc : ¬ (1 : Int32) = (0 : Int32))
    refine r_iloadN (pc' := 29) K1 dgc_28 rfl rfl ?_
    refine r_iconst (v := (1 : Int32)) (pc' := 30) K1 dgc_29 rfl (by decide) ?_
    refine r_ishl (pc' := 31) K1 dgc_30 rfl ?_
    rw [own_two (by omega)]
    refine r_istoreN (Ls' := #[.val (.ref b), .val (.int (Int32.ofNat (2 * i)))]) (pc' := 32) K1 dgc_31 rfl rfl ?_
    refine r_aloadN (pc' := 33) K1 dgc_32 rfl rfl rfl ?_
    refine r_iloadN (pc' := 34) K1 dgc_33 rfl rfl ?_
    refine r_iinc (v := (1 : Int32)) (Ls' := #[.val (.ref b), .val (.int ((Int32.ofNat (2 * i)) + (1 : Int32)))]) (pc' := 37) K1 dgc_34 rfl (by decide) rfl rfl ?_
    rw [own_one]
    refine r_baload (pc' := 38) (v := .int (lo x)) K1 A ⟨own_nn (by omega), own_lt (by omega) (by omega)⟩ (by rw [own_n32 (by omega)]; exact own_gv (enc.at hx).1) dgc_37 rfl ?_
    refine r_sipush (v := (255 : Int32)) (pc' := 41) K1 dgc_38 rfl (by decide) ?_
    refine r_iand (pc' := 42) K1 dgc_41 rfl ?_
    refine r_getS (pc' := 45) K1 (hw _ (List.mem_of_getElem? (i := 100) rfl)) (Shi.ext K.ext) dgc_42 rfl ?_
    intro T2 K2
    refine r_ishl (pc' := 46) K2 dgc_45 rfl ?_
    refine r_aloadN (pc' := 47) K2 dgc_46 rfl rfl rfl ?_
    refine r_iloadN (pc' := 48) K2 dgc_47 rfl rfl ?_
    refine r_baload (pc' := 49) (v := .int (Jvm.Pilot.@@N@@.hi x)) K2 A ⟨own_nn (by omega), own_lt (by omega) (by omega)⟩ (by rw [own_n32 (by omega)]; exact own_gv (enc.at hx).2) dgc_48 rfl ?_
    refine r_sipush (v := (255 : Int32)) (pc' := 52) K2 dgc_49 rfl (by decide) ?_
    refine r_iand (pc' := 53) K2 dgc_52 rfl ?_
    refine r_getS (pc' := 56) K2 (hw _ (List.mem_of_getElem? (i := 101) rfl)) (Slo.ext K.ext) dgc_53 rfl ?_
    intro T3 K3
    refine r_ishl (pc' := 57) K3 dgc_56 rfl ?_
    refine r_ior (pc' := 58) K3 dgc_57 rfl ?_
    refine r_i2c (pc' := 59) K3 dgc_58 rfl ?_
    rw [own_get16 hch]
    exact r_retC K3 hret hlk (own_narC hch) dgc_59 (by decide) (by decide) ⟨rfl, rfl⟩
  · intro (hc : (1 : Int32) = (0 : Int32))
    exact absurd hc (by decide)
section Lr
variable {Z : State} {a0 : Array Value} {p : Program} {l : Launch} {e : Env} {R : Room} {s : State} {m : MethodId} {args : Array Value} {below : List Frame} {meth : Method} {c : Code} {T : State} {h : Heap} {cells slots : Nat} {P : State → Prop}
set_option maxRecDepth 65536 in
set_option maxHeartbeats 4000000 in
theorem u_cl {src dst : Addr} {ks kd : ClassId} {cs : List Int32} (hn : cs.length ≤ 4) {i0 : Nat} {x0 : Int32} (hx0 : cs[i0]? = some x0) (hw0 : 255 < x0) (hlt : ∀ (j : Nat) (y : Int32), j < i0 → cs[j]? = some y → ¬ 255 < y) (gd : Z.heap.size ≤ dst) (hsd : src ≠ dst)
    (hk : ∀ T' h', St Z "java/lang/StringUTF16" jdk_52_method_21_code 7 p l e R s m args below meth c T' h' cells slots → Keep h h' [dst] → Run p e below P T' (mkF m 23 #[.val (.ref src), .val (.int (Int32.ofNat i0)), .val (.ref dst), .val (.int (Int32.ofNat i0)), .val (.int (Int32.ofNat cs.length)), .val (.int (Int32.ofNat i0)), .val (.int x0)] [])) :
    ∀ (k i : Nat) (s6 : Slot) (T : State) (h' : Heap), i + k = i0 → Jvm.RoadKit.One s6 → St Z "java/lang/StringUTF16" jdk_52_method_21_code 7 p l e R s m args below meth c T h' cells slots → Keep h h' [dst] → Arv Z h' src ks .char (Int32.ofNat cs.length) (cs.map Value.int) (.int 0) → Arv Z h' dst kd .byte (Int32.ofNat cs.length) (own_dst cs i) (.int 0) → Run p e below P T (mkF m 3 #[.val (.ref src), .val (.int (Int32.ofNat i)), .val (.ref dst), .val (.int (Int32.ofNat i)), .val (.int (Int32.ofNat cs.length)), .val (.int (Int32.ofNat i)), s6] []) := by
  have hi0 := (List.getElem?_eq_some_iff.mp hx0).1
  intro k
  induction k with
  | zero =>
    intro i s6 T h' hi hs6 K Kp A D
    obtain rfl : i = i0 := by omega
    refine r_iload (pc' := 5) K dcl_3 rfl rfl ?_
    refine r_iload (pc' := 7) K dcl_5 rfl rfl ?_
    refine r_icmp (pc1 := 10) (pc2 := 44) K dcl_7 rfl (by decide) (by decide) ?_ ?_
    · intro (hc : ¬ (Int32.ofNat i) < (Int32.ofNat cs.length))
      exact absurd (own_lt (by omega) (by omega)) hc
    · intro (hc : (Int32.ofNat i) < (Int32.ofNat cs.length))
      have hx := hx0
      refine r_aloadN (pc' := 11) K dcl_10 rfl rfl rfl ?_
      refine r_iloadN (pc' := 12) K dcl_11 rfl rfl ?_
      refine r_caload (pc' := 13) (v := .int x0) K A ⟨own_nn (by omega), own_lt (by omega) (by omega)⟩ (by rw [own_n32 (by omega)]; exact own_gv hx) dcl_12 rfl ?_
      refine r_istore (Ls' := #[.val (.ref src), .val (.int (Int32.ofNat i)), .val (.ref dst), .val (.int (Int32.ofNat i)), .val (.int (Int32.ofNat cs.length)), .val (.int (Int32.ofNat i)), .val (.int x0)]) (pc' := 15) K dcl_13 rfl (own_s6c hs6) ?_
      refine r_iload (pc' := 17) K dcl_15 rfl rfl ?_
      refine r_sipush (v := (255 : Int32)) (pc' := 20) K dcl_17 rfl (by decide) ?_
      refine r_icmp (pc1 := 23) (pc2 := 26) K dcl_20 rfl (by decide) (by decide) ?_ ?_
      · intro (hc2 : ¬ (255 : Int32) < x0)
        exact absurd hw0 hc2
      · intro (hc2 : (255 : Int32) < x0)
        exact hk T h' K Kp
  | succ k ih =>
    intro i s6 T h' hi hs6 K Kp A D
    refine r_iload (pc' := 5) K dcl_3 rfl rfl ?_
    refine r_iload (pc' := 7) K dcl_5 rfl rfl ?_
    refine r_icmp (pc1 := 10) (pc2 := 44) K dcl_7 rfl (by decide) (by decide) ?_ ?_
    · intro (hc : ¬ (Int32.ofNat i) < (Int32.ofNat cs.length))
      exact absurd (own_lt (by omega) (by omega)) hc
    · intro (hc : (Int32.ofNat i) < (Int32.ofNat cs.length))
      obtain ⟨x, hx⟩ := own_get (xs := cs) (j := i) (by omega)
      refine r_aloadN (pc' := 11) K dcl_10 rfl rfl rfl ?_
      refine r_iloadN (pc' := 12) K dcl_11 rfl rfl ?_
      refine r_caload (pc' := 13) (v := .int x) K A ⟨own_nn (by omega), own_lt (by omega) (by omega)⟩ (by rw [own_n32 (by omega)]; exact own_gv hx) dcl_12 rfl ?_
      refine r_istore (Ls' := #[.val (.ref src), .val (.int (Int32.ofNat i)), .val (.ref dst), .val (.int (Int32.ofNat i)), .val (.int (Int32.ofNat cs.length)), .val (.int (Int32.ofNat i)), .val (.int x)]) (pc' := 15) K dcl_13 rfl (own_s6c hs6) ?_
      refine r_iload (pc' := 17) K dcl_15 rfl rfl ?_
      refine r_sipush (v := (255 : Int32)) (pc' := 20) K dcl_17 rfl (by decide) ?_
      refine r_icmp (pc1 := 23) (pc2 := 26) K dcl_20 rfl (by decide) (by decide) ?_ ?_
      · intro (hc2 : ¬ (255 : Int32) < x)
        refine r_aloadN (pc' := 27) K dcl_26 rfl rfl rfl ?_
        refine r_iloadN (pc' := 28) K dcl_27 rfl rfl ?_
        refine r_iload (pc' := 30) K dcl_28 rfl rfl ?_
        refine r_i2b (pc' := 31) K dcl_30 rfl ?_
        refine r_bastore (pc' := 32) (i := i) K D gd ⟨own_nn (by omega), own_lt (by omega) (by omega)⟩ (own_n32 (by omega)) (by rw [own_dstl cs (by omega)]; omega) dcl_31 rfl ?_
        intro T2 h2 K2 W2 D2
        rw [own_b8, own_dsts hx] at D2
        refine r_iinc (v := (1 : Int32)) (Ls' := #[.val (.ref src), .val (.int ((Int32.ofNat i) + (1 : Int32))), .val (.ref dst), .val (.int (Int32.ofNat i)), .val (.int (Int32.ofNat cs.length)), .val (.int (Int32.ofNat i)), .val (.int x)]) (pc' := 35) K2 dcl_32 rfl (by decide) rfl rfl ?_
        refine r_iinc (v := (1 : Int32)) (Ls' := #[.val (.ref src), .val (.int ((Int32.ofNat i) + (1 : Int32))), .val (.ref dst), .val (.int ((Int32.ofNat i) + (1 : Int32))), .val (.int (Int32.ofNat cs.length)), .val (.int (Int32.ofNat i)), .val (.int x)]) (pc' := 38) K2 dcl_35 rfl (by decide) rfl rfl ?_
        refine r_iinc (v := (1 : Int32)) (Ls' := #[.val (.ref src), .val (.int ((Int32.ofNat i) + (1 : Int32))), .val (.ref dst), .val (.int ((Int32.ofNat i) + (1 : Int32))), .val (.int (Int32.ofNat cs.length)), .val (.int ((Int32.ofNat i) + (1 : Int32))), .val (.int x)]) (pc' := 41) K2 dcl_38 rfl (by decide) rfl rfl ?_
        simp only [own_one]
        refine r_goto (pc' := 3) K2 dcl_41 (by decide) (by decide) ?_
        exact ih (i + 1) (.val (.int x)) T2 h2 (by omega) (One.val rfl) K2 (Kp.wr W2 (Or.inl (List.mem_of_getElem? (i := 0) rfl))) (A.other W2 hsd) D2
      · intro (hc2 : (255 : Int32) < x)
        exact absurd hc2 (hlt i x (by omega) hx)
end Lr
set_option maxRecDepth 65536 in
set_option maxHeartbeats 4000000 in
theorem u_cmpL (l : Launch) {Z : State} {a0 : Array Value} (hw : ∀ d ∈ tables_1, d.before a0 Z = true) {h : Heap} (hE : Ext Z.heap h) {src : Addr} {ks : ClassId} {cs : List Int32} (hn : cs.length ≤ 4) (A : Arv Z h src ks .char (Int32.ofNat cs.length) (cs.map Value.int) (.int 0)) {dst : Addr} {kd : ClassId} {i0 : Nat} {x0 : Int32} (hx0 : cs[i0]? = some x0) (hw0 : 255 < x0) (hlt : ∀ (j : Nat) (y : Int32), j < i0 → cs[j]? = some y → ¬ 255 < y) (gd : Z.heap.size ≤ dst) (hsd : src ≠ dst) (D : Arv Z h dst kd .byte (Int32.ofNat cs.length) (List.replicate cs.length (.int 0)) (.int 0)) :
    Con l (⟨"java/lang/StringUTF16", "compress", "([CI[BII)I"⟩ : MethodName) jdk_52_method_21_code 7 (some .int) [] ({ frames := 0, cells := 0, slots := 0, locals := 0 } : Room) Z #[.ref src, .int 0, .ref dst, .int 0, .int (Int32.ofNat cs.length)] h (fun v h' => v = some (.int (Int32.ofNat i0)) ∧ Keep h h' [dst]) := by
  refine con_intro (by first | exact plainFor_of_name pnU | decide +kernel) hE ?_
  intro p e s m below meth c T K hret hlk hnm
  have ef : entryFrame m #[.ref src, .int 0, .ref dst, .int 0, .int (Int32.ofNat cs.length)] 7 = (mkF m 0 #[.val (.ref src), .val (.int (0 : Int32)), .val (.ref dst), .val (.int (0 : Int32)), .val (.int (Int32.ofNat cs.length)), .unset, .unset] []) := by first | (simp [entryFrame, mkF, argsToLocals, Value.category]; done) | rfl
  rw [ef]
  refine r_iconst (v := (0 : Int32)) (pc' := 1) K dcl_0 rfl (by decide) ?_
  refine r_istore (Ls' := #[.val (.ref src), .val (.int (0 : Int32)), .val (.ref dst), .val (.int (0 : Int32)), .val (.int (Int32.ofNat cs.length)), .val (.int (0 : Int32)), .unset]) (pc' := 3) K dcl_1 rfl rfl ?_
  refine u_cl (h := h) hn hx0 hw0 hlt gd hsd ?_ i0 0 .unset T h (by omega) One.u K (Keep.refl _ _) A (by rw [own_dst0]; exact D)
  intro T1 h1 K1 Kp1
  refine r_iload (pc' := 25) K1 dcl_23 rfl rfl ?_
  exact r_retI K1 hret hlk dcl_25 (by decide) (by decide) ⟨rfl, Kp1⟩
set_option maxRecDepth 65536 in
set_option maxHeartbeats 4000000 in
theorem u_cmp (l : Launch) {Z : State} {a0 : Array Value} (hw : ∀ d ∈ tables_1, d.before a0 Z = true) {h : Heap} (hE : Ext Z.heap h) (Sad : Sta Z Z.heap "java/lang/StringUTF16" "$assertionsDisabled" "Z" (.int 1)) (Shi : Sta Z Z.heap "java/lang/StringUTF16" "HI_BYTE_SHIFT" "I" (.int 0)) (Slo : Sta Z Z.heap "java/lang/StringUTF16" "LO_BYTE_SHIFT" "I" (.int 8)) {src : Addr} {ks : ClassId} {cs : List Int32} (hn : cs.length ≤ 4) (A : Arv Z h src ks .char (Int32.ofNat cs.length) (cs.map Value.int) (.int 0)) {i0 : Nat} {x0 : Int32} (hx0 : cs[i0]? = some x0) (hw0 : 255 < x0) (hlt : ∀ (j : Nat) (y : Int32), j < i0 → cs[j]? = some y → ¬ 255 < y) (hch : Ch x0) :
    Con l (⟨"java/lang/StringUTF16", "compress", "([CII)[B"⟩ : MethodName) jdk_52_method_16_code 6 (some (.array .byte)) [] ({ frames := 3, cells := 2, slots := 12, locals := 40 } : Room) Z #[.ref src, .int 0, .int (Int32.ofNat cs.length)] h (fun v h' => ∃ b k, v = some (.ref b) ∧ h.size ≤ b ∧ Ext h h' ∧ Arv Z h' b k .byte (Int32.ofNat (2 * cs.length)) ((enc cs).map Value.int) (.int 0)) := by
  refine con_intro (by first | exact plainFor_of_name pnU | decide +kernel) hE ?_
  intro p e s m below meth c T K hret hlk hnm
  have hi0 := (List.getElem?_eq_some_iff.mp hx0).1
  have ef : entryFrame m #[.ref src, .int 0, .int (Int32.ofNat cs.length)] 6 = (mkF m 0 #[.val (.ref src), .val (.int (0 : Int32)), .val (.int (Int32.ofNat cs.length)), .unset, .unset, .unset] []) := by first | (simp [entryFrame, mkF, argsToLocals, Value.category]; done) | rfl
  rw [ef]
  refine r_iloadN (pc' := 1) K dcm_0 rfl rfl ?_
  refine r_newarr (pc' := 3) (cap := 4) K (hw _ (List.mem_of_getElem? (i := 24) rfl)) dcm_1 rfl (own_nn (by omega)) (by rw [own_n32 (by omega)]; exact hn) (by decide) (by decide) (by decide) ?_
  intro T1 h1 b k hb1 K1 E1 A1
  refine r_astoreN (Ls' := #[.val (.ref src), .val (.int (0 : Int32)), .val (.int (Int32.ofNat cs.length)), .val (.ref b), .unset, .unset]) (pc' := 4) K1 dcm_3 rfl rfl rfl ?_
  refine r_aloadN (pc' := 5) K1 dcm_4 rfl rfl rfl ?_
  refine r_iloadN (pc' := 6) K1 dcm_5 rfl rfl ?_
  refine r_aloadN (pc' := 7) K1 dcm_6 rfl rfl rfl ?_
  refine r_iconst (v := (0 : Int32)) (pc' := 8) K1 dcm_7 rfl (by decide) ?_
  refine r_iloadN (pc' := 9) K1 dcm_8 rfl rfl ?_
  have hsd : src ≠ b := by rw [hb1]; exact Nat.ne_of_lt A.lt
  refine r_static (pc' := 12) (argsL := [.ref src, .int (0 : Int32), .ref b, .int (0 : Int32), .int (Int32.ofNat cs.length)]) (rest := []) (W := 0) K1 (u_cmpL l hw K1.ext hn (A.ext E1) hx0 hw0 hlt (by rw [hb1]; exact K.sz) hsd (A1.pad (by intro i; simp [List.getD_eq_getElem?_getD, List.getElem?_replicate]; split <;> rfl))) (hw _ (List.mem_of_getElem? (i := 45) rfl)) (hw _ (List.mem_of_getElem? (i := 46) rfl)) (hw _ (List.mem_of_getElem? (i := 43) rfl)) (hw _ (List.mem_of_getElem? (i := 47) rfl)) (by decide) pdCL rfl rfl rfl (Nat.le_refl _) (by decide) (by decide) (by decide) (by decide) dcm_9 rfl ?_
  rintro _ T2 h2 K2 ⟨rfl, Kp2⟩
  have X2 : Ext _ h2 := ext_keep E1 Kp2 (allS (Nat.le_of_eq hb1.symm) all0)
  refine r_istore (Ls' := #[.val (.ref src), .val (.int (0 : Int32)), .val (.int (Int32.ofNat cs.length)), .val (.ref b), .val (.int (Int32.ofNat i0)), .unset]) (pc' := 14) K2 dcm_12 rfl rfl ?_
  refine r_iload (pc' := 16) K2 dcm_14 rfl rfl ?_
  refine r_iloadN (pc' := 17) K2 dcm_16 rfl rfl ?_
  refine r_icmp (pc1 := 20) (pc2 := 57) K2 dcm_17 rfl (by decide) (by decide) ?_ ?_
  · intro (hc : (Int32.ofNat i0) = (Int32.ofNat cs.length))
    exact absurd (own_eq (by omega) (by omega) hc) (by omega)
  · intro (hc : ¬ (Int32.ofNat i0) = (Int32.ofNat cs.length))
    refine r_aloadN (pc' := 21) K2 dcm_20 rfl rfl rfl ?_
    refine r_iloadN (pc' := 22) K2 dcm_21 rfl rfl ?_
    refine r_iloadN (pc' := 23) K2 dcm_22 rfl rfl ?_
    refine r_static (pc' := 26) (argsL := [.ref src, .int (0 : Int32), .int (Int32.ofNat cs.length)]) (rest := []) (W := 0) K2 (u_tob l hw K2.ext Sad Shi Slo hn (A.ext X2)) (hw _ (List.mem_of_getElem? (i := 86) rfl)) (hw _ (List.mem_of_getElem? (i := 87) rfl)) (hw _ (List.mem_of_getElem? (i := 43) rfl)) (hw _ (List.mem_of_getElem? (i := 88) rfl)) (by decide) pdCM rfl rfl rfl (Nat.le_refl _) (by decide) (by decide) (by decide) (by decide) dcm_23 rfl ?_
    rintro _ T3 h3 K3 ⟨q, kq, rfl, hq3, E3, A3⟩
    refine r_astore (Ls' := #[.val (.ref src), .val (.int (0 : Int32)), .val (.int (Int32.ofNat cs.length)), .val (.ref b), .val (.int (Int32.ofNat i0)), .val (.ref q)]) (pc' := 28) K3 dcm_26 rfl rfl rfl ?_
    refine r_aload (pc' := 30) K3 dcm_28 rfl rfl rfl ?_
    refine r_iload (pc' := 32) K3 dcm_30 rfl rfl ?_
    refine r_static (pc' := 35) (argsL := [.ref q, .int (Int32.ofNat i0)]) (rest := []) (W := 0) K3 (u_get l hw K3.ext Sad Shi Slo hn A3 hx0 hch) (hw _ (List.mem_of_getElem? (i := 102) rfl)) (hw _ (List.mem_of_getElem? (i := 103) rfl)) (hw _ (List.mem_of_getElem? (i := 43) rfl)) (hw _ (List.mem_of_getElem? (i := 104) rfl)) (by decide) pdGC rfl rfl rfl (Nat.le_refl _) (by decide) (by decide) (by decide) (by decide) dcm_32 rfl ?_
    rintro _ T4 _ K4 ⟨rfl, rfl⟩
    refine r_sipush (v := (255 : Int32)) (pc' := 38) K4 dcm_35 rfl (by decide) ?_
    refine r_icmp (pc1 := 41) (pc2 := 54) K4 dcm_38 rfl (by decide) (by decide) ?_ ?_
    · intro (hc2 : (255 : Int32) < x0)
      refine r_aload (pc' := 56) K4 dcm_54 rfl rfl rfl ?_
      exact r_retA K4 hret hlk rfl rfl dcm_56 (by decide) (by decide) ⟨q, kq, rfl, Nat.le_trans X2.1 hq3, ext_tr X2 E3, A3⟩
    · intro (hc2 : ¬ (255 : Int32) < x0)
      exact absurd hw0 hc2
set_option maxRecDepth 65536 in
set_option maxHeartbeats 4000000 in
theorem u_cod (l : Launch) {Z : State} {a0 : Array Value} (hw : ∀ d ∈ tables_1, d.before a0 Z = true) {h : Heap} (hE : Ext Z.heap h) {b : Addr} {k : ClassId} {k0 : Nat} {vs : List Value} (h1 : 1 ≤ k0) (h4 : k0 ≤ 4) (A : Arv Z h b k .byte (Int32.ofNat (2 * k0)) vs (.int 0)) :
    Con l (⟨"java/lang/StringUTF16", "coderFromArrayLen", "([BI)B"⟩ : MethodName) jdk_52_method_15_code 2 (some .byte) [] ({ frames := 0, cells := 0, slots := 0, locals := 0 } : Room) Z #[.ref b, .int (Int32.ofNat k0)] h (fun v h' => v = some (.int 1) ∧ h' = h) := by
  refine con_intro (by first | exact plainFor_of_name pnU | decide +kernel) hE ?_
  intro p e s m below meth c T K hret hlk hnm
  have ef : entryFrame m #[.ref b, .int (Int32.ofNat k0)] 2 = (mkF m 0 #[.val (.ref b), .val (.int (Int32.ofNat k0))] []) := by first | (simp [entryFrame, mkF, argsToLocals, Value.category]; done) | rfl
  rw [ef]
  refine r_iloadN (pc' := 1) K dco_0 rfl rfl ?_
  refine r_aloadN (pc' := 2) K dco_1 rfl rfl rfl ?_
  refine r_alen (pc' := 3) K A dco_2 rfl ?_
  refine r_isub (pc' := 4) K dco_3 rfl ?_
  refine r_bipush (v := (31 : Int32)) (pc' := 6) K dco_4 rfl (by decide) ?_
  refine r_iushr (pc' := 7) K dco_6 rfl ?_
  refine r_i2b (pc' := 8) K dco_7 rfl ?_
  rw [own_cod1 h1 (by omega)]
  exact r_retB K hret hlk (by decide) dco_8 (by decide) (by decide) ⟨rfl, rfl⟩
/-- the String at a is UTF-16 and its signs are cs -/
def StrU (Z : State) (h : Heap) (a : Addr) (cs : List Int32) : Prop := ∃ (b : Addr) (k : ClassId), Exa Z h a "java/lang/String" ∧ Fld Z h a "java/lang/String" "coder" "B" (.int 1) ∧ Fld Z h a "java/lang/String" "value" "[B" (.ref b) ∧ Arv Z h b k .byte (Int32.ofNat (2 * cs.length)) ((enc cs).map Value.int) (.int 0)
set_option maxRecDepth 65536 in
set_option maxHeartbeats 4000000 in
theorem u_iV (l : Launch) {Z : State} {a0 : Array Value} (hw : ∀ d ∈ tables_1, d.before a0 Z = true) {h : Heap} (hE : Ext Z.heap h) (Sad : Sta Z Z.heap "java/lang/StringUTF16" "$assertionsDisabled" "Z" (.int 1)) (Shi : Sta Z Z.heap "java/lang/StringUTF16" "HI_BYTE_SHIFT" "I" (.int 0)) (Slo : Sta Z Z.heap "java/lang/StringUTF16" "LO_BYTE_SHIFT" "I" (.int 8)) {a : Addr} (ga : Z.heap.size ≤ a) (E : Exa Z h a "java/lang/String") (Fv : Fld Z h a "java/lang/String" "value" "[B" .null) (Fc : Fld Z h a "java/lang/String" "coder" "B" (.int 0)) {src : Addr} {ks : ClassId} {cs : List Int32} (hn : cs.length ≤ 4) (A : Arv Z h src ks .char (Int32.ofNat cs.length) (cs.map Value.int) (.int 0)) {i0 : Nat} {x0 : Int32} (hx0 : cs[i0]? = some x0) (hw0 : 255 < x0) (hlt : ∀ (j : Nat) (y : Int32), j < i0 → cs[j]? = some y → ¬ 255 < y) (hch : Ch x0) {cs0 : Int32} (Cs : Sta Z Z.heap "java/lang/String" "COMPACT_STRINGS" "Z" (.int cs0)) (hcs : ¬ cs0 = 0) :
    Con l (⟨"java/lang/String", "<init>", "([CIILjava/lang/Void;)V"⟩ : MethodName) jdk_42_method_149_code 6 none [] ({ frames := 4, cells := 2, slots := 12, locals := 57 } : Room) Z #[.ref a, .ref src, .int 0, .int (Int32.ofNat cs.length), .null] h (fun v h' => v = none ∧ Keep h h' [a] ∧ StrU Z h' a cs) := by
  refine con_intro (by first | exact plainFor_of_name pnS | decide +kernel) hE ?_
  intro p e s m below meth c T K hret hlk hnm
  have hi0 := (List.getElem?_eq_some_iff.mp hx0).1
  have ef : entryFrame m #[.ref a, .ref src, .int 0, .int (Int32.ofNat cs.length), .null] 6 = (mkF m 0 #[.val (.ref a), .val (.ref src), .val (.int (0 : Int32)), .val (.int (Int32.ofNat cs.length)), .val (.null), .unset] []) := by first | (simp [entryFrame, mkF, argsToLocals, Value.category]; done) | rfl
  rw [ef]
  refine r_aloadN (pc' := 1) K dsv_0 rfl rfl rfl ?_
  refine r_init (pc' := 4) (W := 0) K (hw _ (List.mem_of_getElem? (i := 20) rfl)) (hw _ (List.mem_of_getElem? (i := 21) rfl)) (hw _ (List.mem_of_getElem? (i := 22) rfl)) rfl dsv_1 rfl (by decide) (Nat.le_refl _) (by decide) ?_
  intro T1 K1
  refine r_iloadN (pc' := 5) K1 dsv_4 rfl rfl ?_
  refine r_if (pc1 := 8) (pc2 := 27) K1 dsv_5 rfl (by decide) (by decide) ?_ ?_
  · intro (hc : ¬ (Int32.ofNat cs.length) = (0 : Int32))
    refine r_getS (pc' := 30) K1 (hw _ (List.mem_of_getElem? (i := 40) rfl)) (Cs.ext K.ext) dsv_27 rfl ?_
    intro T2 K2
    refine r_if (pc1 := 33) (pc2 := 58) K2 dsv_30 rfl (by decide) (by decide) ?_ ?_
    · intro (hc2 : cs0 = (0 : Int32))
      exact absurd hc2 hcs
    · intro (hc2 : ¬ cs0 = (0 : Int32))
      refine r_aloadN (pc' := 34) K2 dsv_33 rfl rfl rfl ?_
      refine r_iloadN (pc' := 35) K2 dsv_34 rfl rfl ?_
      refine r_iloadN (pc' := 36) K2 dsv_35 rfl rfl ?_
      refine r_static (pc' := 39) (argsL := [.ref src, .int (0 : Int32), .int (Int32.ofNat cs.length)]) (rest := []) (W := 0) K2 (u_cmp l hw hE Sad Shi Slo hn A hx0 hw0 hlt hch) (hw _ (List.mem_of_getElem? (i := 41) rfl)) (hw _ (List.mem_of_getElem? (i := 42) rfl)) (hw _ (List.mem_of_getElem? (i := 43) rfl)) (hw _ (List.mem_of_getElem? (i := 44) rfl)) (by decide) pdCM rfl rfl rfl (Nat.le_refl _) (by decide) (by decide) (by decide) (by decide) dsv_36 rfl ?_
      rintro _ T3 h3 K3 ⟨b, kb, rfl, hb3, E3, A3⟩
      refine r_astore (Ls' := #[.val (.ref a), .val (.ref src), .val (.int (0 : Int32)), .val (.int (Int32.ofNat cs.length)), .val (.null), .val (.ref b)]) (pc' := 41) K3 dsv_39 rfl rfl rfl ?_
      refine r_aloadN (pc' := 42) K3 dsv_41 rfl rfl rfl ?_
      refine r_aload (pc' := 44) K3 dsv_42 rfl rfl rfl ?_
      refine r_iloadN (pc' := 45) K3 dsv_44 rfl rfl ?_
      refine r_static (pc' := 48) (argsL := [.ref b, .int (Int32.ofNat cs.length)]) (rest := [.ref a]) (W := 1) K3 (u_cod l hw K3.ext (by omega) hn A3) (hw _ (List.mem_of_getElem? (i := 48) rfl)) (hw _ (List.mem_of_getElem? (i := 49) rfl)) (hw _ (List.mem_of_getElem? (i := 43) rfl)) (hw _ (List.mem_of_getElem? (i := 50) rfl)) (by decide) pdCO rfl rfl rfl (Nat.le_refl _) (by decide) (by decide) (by decide) (by decide) dsv_45 rfl ?_
      rintro _ T4 _ K4 ⟨rfl, rfl⟩
      refine r_putF (pc' := 51) K4 (hw _ (List.mem_of_getElem? (i := 30) rfl)) (Fc.ext E3) (E.ext E3) ga (Or.inr ⟨(hw _ (List.mem_of_getElem? (i := 26) rfl)), rfl, hnm⟩) (hw _ (List.mem_of_getElem? (i := 7) rfl)) (ty := .byte) (by decide) rfl rfl dsv_48 rfl ?_
      intro T5 h5 K5 W5
      refine r_aloadN (pc' := 52) K5 dsv_51 rfl rfl rfl ?_
      refine r_aload (pc' := 54) K5 dsv_52 rfl rfl rfl ?_
      refine r_putF (pc' := 57) K5 (hw _ (List.mem_of_getElem? (i := 29) rfl)) ((Fv.ext E3).other W5 (Or.inr (slot_ne (Or.inr (hw _ (List.mem_of_getElem? (i := 25) rfl))) (Or.inr (hw _ (List.mem_of_getElem? (i := 26) rfl))) (by decide) (t := .array .byte) (t' := .byte) (by decide) (by decide)))) ((E.ext E3).wr W5) ga (Or.inr ⟨(hw _ (List.mem_of_getElem? (i := 25) rfl)), rfl, hnm⟩) (hw _ (List.mem_of_getElem? (i := 7) rfl)) (ty := .array .byte) (by decide) rfl rfl dsv_54 rfl ?_
      intro T6 h6 K6 W6
      have hab : b ≠ a := Nat.ne_of_gt (Nat.lt_of_lt_of_le E.lt hb3)
      exact r_retV K6 hret hlk dsv_57 (by decide) (by decide) ⟨rfl, ((((Keep.refl _ _).ext E3).wr W5 (Or.inl (List.mem_of_getElem? (i := 0) rfl))).wr W6 (Or.inl (List.mem_of_getElem? (i := 0) rfl))), b, kb, ((E.ext E3).wr W5).wr W6, ((Fc.ext E3).same W5).other W6 (Or.inr (slot_ne (Or.inr (hw _ (List.mem_of_getElem? (i := 26) rfl))) (Or.inr (hw _ (List.mem_of_getElem? (i := 25) rfl))) (by decide) (t := .byte) (t' := .array .byte) (by decide) (by decide))), ((Fv.ext E3).other W5 (Or.inr (slot_ne (Or.inr (hw _ (List.mem_of_getElem? (i := 25) rfl))) (Or.inr (hw _ (List.mem_of_getElem? (i := 26) rfl))) (by decide) (t := .array .byte) (t' := .byte) (by decide) (by decide)))).same W6, (A3.other W5 hab).other W6 hab⟩
  · intro (hc : (Int32.ofNat cs.length) = (0 : Int32))
    exact absurd (own_eq (i := cs.length) (n := 0) (by omega) (by omega) hc) (by omega)
set_option maxRecDepth 65536 in
set_option maxHeartbeats 4000000 in
theorem u_iC (l : Launch) {Z : State} {a0 : Array Value} (hw : ∀ d ∈ tables_1, d.before a0 Z = true) {h : Heap} (hE : Ext Z.heap h) (Sad : Sta Z Z.heap "java/lang/StringUTF16" "$assertionsDisabled" "Z" (.int 1)) (Shi : Sta Z Z.heap "java/lang/StringUTF16" "HI_BYTE_SHIFT" "I" (.int 0)) (Slo : Sta Z Z.heap "java/lang/StringUTF16" "LO_BYTE_SHIFT" "I" (.int 8)) {a : Addr} (ga : Z.heap.size ≤ a) (E : Exa Z h a "java/lang/String") (Fv : Fld Z h a "java/lang/String" "value" "[B" .null) (Fc : Fld Z h a "java/lang/String" "coder" "B" (.int 0)) {src : Addr} {ks : ClassId} {cs : List Int32} (hn : cs.length ≤ 4) (A : Arv Z h src ks .char (Int32.ofNat cs.length) (cs.map Value.int) (.int 0)) {i0 : Nat} {x0 : Int32} (hx0 : cs[i0]? = some x0) (hw0 : 255 < x0) (hlt : ∀ (j : Nat) (y : Int32), j < i0 → cs[j]? = some y → ¬ 255 < y) (hch : Ch x0) {cs0 : Int32} (Cs : Sta Z Z.heap "java/lang/String" "COMPACT_STRINGS" "Z" (.int cs0)) (hcs : ¬ cs0 = 0) :
    Con l (⟨"java/lang/String", "<init>", "([C)V"⟩ : MethodName) jdk_42_method_3_code 2 none [] ({ frames := 5, cells := 2, slots := 12, locals := 74 } : Room) Z #[.ref a, .ref src] h (fun v h' => v = none ∧ Keep h h' [a] ∧ StrU Z h' a cs) := by
  refine con_intro (by first | exact plainFor_of_name pnS | decide +kernel) hE ?_
  intro p e s m below meth c T K hret hlk hnm
  have ef : entryFrame m #[.ref a, .ref src] 2 = (mkF m 0 #[.val (.ref a), .val (.ref src)] []) := by first | (simp [entryFrame, mkF, argsToLocals, Value.category]; done) | rfl
  rw [ef]
  refine r_aloadN (pc' := 1) K dsc_0 rfl rfl rfl ?_
  refine r_aloadN (pc' := 2) K dsc_1 rfl rfl rfl ?_
  refine r_iconst (v := (0 : Int32)) (pc' := 3) K dsc_2 rfl (by decide) ?_
  refine r_aloadN (pc' := 4) K dsc_3 rfl rfl rfl ?_
  refine r_alen (pc' := 5) K A dsc_4 rfl ?_
  refine r_aconstNull (pc' := 6) K dsc_5 rfl ?_
  refine r_special (pc' := 9) (argsL := [.ref src, .int (0 : Int32), .int (Int32.ofNat cs.length), .null]) (rest := []) (W := 0) K (u_iV l hw hE Sad Shi Slo ga E Fv Fc hn A hx0 hw0 hlt hch Cs hcs) rfl (hw _ (List.mem_of_getElem? (i := 16) rfl)) (hw _ (List.mem_of_getElem? (i := 17) rfl)) (hw _ (List.mem_of_getElem? (i := 8) rfl)) (hw _ (List.mem_of_getElem? (i := 19) rfl)) (by decide) pdSV rfl rfl rfl (Nat.le_refl _) (by decide) (by decide) (by decide) (by decide) dsc_6 rfl ?_
  rintro _ T1 h1' K1 ⟨rfl, Kp, F⟩
  exact r_retV K1 hret hlk dsc_9 (by decide) (by decide) ⟨rfl, Kp, F⟩
def StrC (Z : State) (h : Heap) (a : Addr) (cs : List Int32) : Prop := (StrL Z h a (cs.map byt) ∧ ∀ (i : Nat) (x : Int32), cs[i]? = some x → ¬ 255 < x) ∨ StrU Z h a cs
theorem StrC.exa {Z : State} {h : Heap} {a : Addr} {cs : List Int32} (F : StrC Z h a cs) : Exa Z h a "java/lang/String" := by
  rcases F with ⟨F, -⟩ | F
  · exact F.exa
  · obtain ⟨b, k, h1, -⟩ := F; exact h1
theorem die_0 : decode jdk_42_method_55_code 0 = .ok (.aload_n 0, 1) := by decide +kernel
theorem die_1 : decode jdk_42_method_55_code 1 = .ok (.getfield 9, 3) := by decide +kernel
theorem die_4 : decode jdk_42_method_55_code 4 = .ok (.arraylength, 1) := by decide +kernel
theorem die_5 : decode jdk_42_method_55_code 5 = .ok (.ifCond .ne 7, 3) := by decide +kernel
theorem die_8 : decode jdk_42_method_55_code 8 = .ok (.iconst 1, 1) := by decide +kernel
theorem die_9 : decode jdk_42_method_55_code 9 = .ok (.goto 4, 3) := by decide +kernel
theorem die_12 : decode jdk_42_method_55_code 12 = .ok (.iconst 0, 1) := by decide +kernel
theorem die_13 : decode jdk_42_method_55_code 13 = .ok (.ireturn, 1) := by decide +kernel
theorem dln_0 : decode jdk_42_method_54_code 0 = .ok (.aload_n 0, 1) := by decide +kernel
theorem dln_1 : decode jdk_42_method_54_code 1 = .ok (.getfield 9, 3) := by decide +kernel
theorem dln_4 : decode jdk_42_method_54_code 4 = .ok (.arraylength, 1) := by decide +kernel
theorem dln_5 : decode jdk_42_method_54_code 5 = .ok (.aload_n 0, 1) := by decide +kernel
theorem dln_6 : decode jdk_42_method_54_code 6 = .ok (.invokevirtual 335, 3) := by decide +kernel
theorem dln_9 : decode jdk_42_method_54_code 9 = .ok (.ishr, 1) := by decide +kernel
theorem dln_10 : decode jdk_42_method_54_code 10 = .ok (.ireturn, 1) := by decide +kernel
theorem dcd_0 : decode jdk_42_method_152_code 0 = .ok (.getstatic 38, 3) := by decide +kernel
theorem dcd_3 : decode jdk_42_method_152_code 3 = .ok (.ifCond .eq 10, 3) := by decide +kernel
theorem dcd_6 : decode jdk_42_method_152_code 6 = .ok (.aload_n 0, 1) := by decide +kernel
theorem dcd_7 : decode jdk_42_method_152_code 7 = .ok (.getfield 15, 3) := by decide +kernel
theorem dcd_10 : decode jdk_42_method_152_code 10 = .ok (.goto 4, 3) := by decide +kernel
theorem dcd_13 : decode jdk_42_method_152_code 13 = .ok (.iconst 1, 1) := by decide +kernel
theorem dcd_14 : decode jdk_42_method_152_code 14 = .ok (.ireturn, 1) := by decide +kernel
theorem dca_0 : decode jdk_42_method_56_code 0 = .ok (.aload_n 0, 1) := by decide +kernel
theorem dca_1 : decode jdk_42_method_56_code 1 = .ok (.invokevirtual 492, 3) := by decide +kernel
theorem dca_4 : decode jdk_42_method_56_code 4 = .ok (.ifCond .eq 12, 3) := by decide +kernel
theorem dca_7 : decode jdk_42_method_56_code 7 = .ok (.aload_n 0, 1) := by decide +kernel
theorem dca_8 : decode jdk_42_method_56_code 8 = .ok (.getfield 9, 3) := by decide +kernel
theorem dca_11 : decode jdk_42_method_56_code 11 = .ok (.iload_n 1, 1) := by decide +kernel
theorem dca_12 : decode jdk_42_method_56_code 12 = .ok (.invokestatic 495, 3) := by decide +kernel
theorem dca_15 : decode jdk_42_method_56_code 15 = .ok (.ireturn, 1) := by decide +kernel
theorem dca_16 : decode jdk_42_method_56_code 16 = .ok (.aload_n 0, 1) := by decide +kernel
theorem dca_17 : decode jdk_42_method_56_code 17 = .ok (.getfield 9, 3) := by decide +kernel
theorem dca_20 : decode jdk_42_method_56_code 20 = .ok (.iload_n 1, 1) := by decide +kernel
theorem dca_21 : decode jdk_42_method_56_code 21 = .ok (.invokestatic 498, 3) := by decide +kernel
theorem dca_24 : decode jdk_42_method_56_code 24 = .ok (.ireturn, 1) := by decide +kernel
theorem dil_0 : decode jdk_42_method_154_code 0 = .ok (.getstatic 38, 3) := by decide +kernel
theorem dil_3 : decode jdk_42_method_154_code 3 = .ok (.ifCond .eq 14, 3) := by decide +kernel
theorem dil_6 : decode jdk_42_method_154_code 6 = .ok (.aload_n 0, 1) := by decide +kernel
theorem dil_7 : decode jdk_42_method_154_code 7 = .ok (.getfield 15, 3) := by decide +kernel
theorem dil_10 : decode jdk_42_method_154_code 10 = .ok (.ifCond .ne 7, 3) := by decide +kernel
theorem dil_13 : decode jdk_42_method_154_code 13 = .ok (.iconst 1, 1) := by decide +kernel
theorem dil_14 : decode jdk_42_method_154_code 14 = .ok (.goto 4, 3) := by decide +kernel
theorem dil_17 : decode jdk_42_method_154_code 17 = .ok (.iconst 0, 1) := by decide +kernel
theorem dil_18 : decode jdk_42_method_154_code 18 = .ok (.ireturn, 1) := by decide +kernel
theorem dlc_0 : decode jdk_43_method_2_code 0 = .ok (.iload_n 1, 1) := by decide +kernel
theorem dlc_1 : decode jdk_43_method_2_code 1 = .ok (.aload_n 0, 1) := by decide +kernel
theorem dlc_2 : decode jdk_43_method_2_code 2 = .ok (.arraylength, 1) := by decide +kernel
theorem dlc_3 : decode jdk_43_method_2_code 3 = .ok (.invokestatic 9, 3) := by decide +kernel
theorem dlc_6 : decode jdk_43_method_2_code 6 = .ok (.aload_n 0, 1) := by decide +kernel
theorem dlc_7 : decode jdk_43_method_2_code 7 = .ok (.iload_n 1, 1) := by decide +kernel
theorem dlc_8 : decode jdk_43_method_2_code 8 = .ok (.baload, 1) := by decide +kernel
theorem dlc_9 : decode jdk_43_method_2_code 9 = .ok (.sipush 255, 3) := by decide +kernel
theorem dlc_12 : decode jdk_43_method_2_code 12 = .ok (.iand, 1) := by decide +kernel
theorem dlc_13 : decode jdk_43_method_2_code 13 = .ok (.i2c, 1) := by decide +kernel
theorem dlc_14 : decode jdk_43_method_2_code 14 = .ok (.ireturn, 1) := by decide +kernel
theorem dck_0 : decode jdk_42_method_155_code 0 = .ok (.iload_n 0, 1) := by decide +kernel
theorem dck_1 : decode jdk_42_method_155_code 1 = .ok (.iload_n 1, 1) := by decide +kernel
theorem dck_2 : decode jdk_42_method_155_code 2 = .ok (.getstatic 1053, 3) := by decide +kernel
theorem dck_5 : decode jdk_42_method_155_code 5 = .ok (.invokestatic 1059, 3) := by decide +kernel
theorem dck_8 : decode jdk_42_method_155_code 8 = .ok (.pop, 1) := by decide +kernel
theorem dck_9 : decode jdk_42_method_155_code 9 = .ok (.return_, 1) := by decide +kernel
theorem dpi_0 : decode jdk_41_method_11_code 0 = .ok (.iload_n 0, 1) := by decide +kernel
theorem dpi_1 : decode jdk_41_method_11_code 1 = .ok (.ifCond .lt 8, 3) := by decide +kernel
theorem dpi_4 : decode jdk_41_method_11_code 4 = .ok (.iload_n 0, 1) := by decide +kernel
theorem dpi_5 : decode jdk_41_method_11_code 5 = .ok (.iload_n 1, 1) := by decide +kernel
theorem dpi_6 : decode jdk_41_method_11_code 6 = .ok (.if_icmp .lt 10, 3) := by decide +kernel
theorem dpi_16 : decode jdk_41_method_11_code 16 = .ok (.iload_n 0, 1) := by decide +kernel
theorem dpi_17 : decode jdk_41_method_11_code 17 = .ok (.ireturn, 1) := by decide +kernel
theorem duc_0 : decode jdk_52_method_83_code 0 = .ok (.iload_n 1, 1) := by decide +kernel
theorem duc_1 : decode jdk_52_method_83_code 1 = .ok (.aload_n 0, 1) := by decide +kernel
theorem duc_2 : decode jdk_52_method_83_code 2 = .ok (.invokestatic 67, 3) := by decide +kernel
theorem duc_5 : decode jdk_52_method_83_code 5 = .ok (.aload_n 0, 1) := by decide +kernel
theorem duc_6 : decode jdk_52_method_83_code 6 = .ok (.iload_n 1, 1) := by decide +kernel
theorem duc_7 : decode jdk_52_method_83_code 7 = .ok (.invokestatic 71, 3) := by decide +kernel
theorem duc_10 : decode jdk_52_method_83_code 10 = .ok (.ireturn, 1) := by decide +kernel
theorem dui_0 : decode jdk_52_method_91_code 0 = .ok (.iload_n 0, 1) := by decide +kernel
theorem dui_1 : decode jdk_52_method_91_code 1 = .ok (.aload_n 1, 1) := by decide +kernel
theorem dui_2 : decode jdk_52_method_91_code 2 = .ok (.invokestatic 48, 3) := by decide +kernel
theorem dui_5 : decode jdk_52_method_91_code 5 = .ok (.invokestatic 414, 3) := by decide +kernel
theorem dui_8 : decode jdk_52_method_91_code 8 = .ok (.return_, 1) := by decide +kernel
theorem dul_0 : decode jdk_52_method_6_code 0 = .ok (.aload_n 0, 1) := by decide +kernel
theorem dul_1 : decode jdk_52_method_6_code 1 = .ok (.arraylength, 1) := by decide +kernel
theorem dul_2 : decode jdk_52_method_6_code 2 = .ok (.iconst 1, 1) := by decide +kernel
theorem dul_3 : decode jdk_52_method_6_code 3 = .ok (.ishr, 1) := by decide +kernel
theorem dul_4 : decode jdk_52_method_6_code 4 = .ok (.ireturn, 1) := by decide +kernel
theorem own_val {Z : State} {h : Heap} {a : Addr} {cs : List Int32} (hn : cs.length ≤ 4) (F : StrC Z h a cs) : ∃ b k z vs, Fld Z h a "java/lang/String" "value" "[B" (.ref b) ∧ Arv Z h b k .byte (Int32.ofNat z) vs (.int 0) ∧ z ≤ 8 ∧ (z = 0 ↔ cs = []) := by
  rcases F with ⟨⟨b, k, h1, h2, h3, h4⟩, -⟩ | ⟨b, k, h1, h2, h3, h4⟩
  · exact ⟨b, k, _, _, h3, h4, by rw [List.length_map]; omega, by rw [List.length_map]; exact List.length_eq_zero_iff⟩
  · exact ⟨b, k, _, _, h3, h4, by omega, by rw [← List.length_eq_zero_iff]; omega⟩
set_option maxRecDepth 65536 in
set_option maxHeartbeats 4000000 in
theorem s_emp (l : Launch) {Z : State} {a0 : Array Value} (hw : ∀ d ∈ tables_1, d.before a0 Z = true) {h : Heap} (hE : Ext Z.heap h) {a : Addr} {cs : List Int32} (hn : cs.length ≤ 4) (F : StrC Z h a cs) :
    Con l (⟨"java/lang/String", "isEmpty", "()Z"⟩ : MethodName) jdk_42_method_55_code 1 (some .boolean) [] ({ frames := 0, cells := 0, slots := 0, locals := 0 } : Room) Z #[.ref a] h (fun v h' => h' = h ∧ (v = some (.int 1) ∧ cs = [] ∨ v = some (.int 0) ∧ ¬ (cs = []))) := by
  refine con_intro (by first | exact plainFor_of_name pnS | decide +kernel) hE ?_
  intro p e s m below meth c T K hret hlk hnm
  obtain ⟨b, k, z, vs, Vb, Ab, hz, hz0⟩ : ∃ b k z vs, Fld Z h a "java/lang/String" "value" "[B" (.ref b) ∧ Arv Z h b k .byte (Int32.ofNat z) vs (.int 0) ∧ z ≤ 8 ∧ (z = 0 ↔ cs = []) := own_val hn F
  have ef : entryFrame m #[.ref a] 1 = (mkF m 0 #[.val (.ref a)] []) := by first | (simp [entryFrame, mkF, argsToLocals, Value.category]; done) | rfl
  rw [ef]
  refine r_aloadN (pc' := 1) K die_0 rfl rfl rfl ?_
  refine r_getF (pc' := 4) K (hw _ (List.mem_of_getElem? (i := 29) rfl)) Vb die_1 rfl ?_
  intro T1 K1
  refine r_alen (pc' := 5) K1 Ab die_4 rfl ?_
  refine r_if (pc1 := 8) (pc2 := 12) K1 die_5 rfl (by decide) (by decide) ?_ ?_
  · intro (hc : ¬ (Int32.ofNat z) = (0 : Int32))
    refine r_iconst (v := (0 : Int32)) (pc' := 13) K1 die_12 rfl (by decide) ?_
    exact r_retZ K1 hret hlk (by decide) die_13 (by decide) (by decide) ⟨rfl, Or.inr ⟨rfl, fun q => hc (by rw [hz0.mpr q]; rfl)⟩⟩
  · intro (hc : (Int32.ofNat z) = (0 : Int32))
    refine r_iconst (v := (1 : Int32)) (pc' := 9) K1 die_8 rfl (by decide) ?_
    refine r_goto (pc' := 13) K1 die_9 (by decide) (by decide) ?_
    exact r_retZ K1 hret hlk (by decide) die_13 (by decide) (by decide) ⟨rfl, Or.inl ⟨rfl, hz0.mp (own_eq (n := 0) (by omega) (by omega) hc)⟩⟩
set_option maxRecDepth 65536 in
set_option maxHeartbeats 4000000 in
theorem s_cod0 (l : Launch) {Z : State} {a0 : Array Value} (hw : ∀ d ∈ tables_1, d.before a0 Z = true) {h : Heap} (hE : Ext Z.heap h) {cs0 : Int32} (Cs : Sta Z Z.heap "java/lang/String" "COMPACT_STRINGS" "Z" (.int cs0)) (hcs : ¬ cs0 = 0) {a : Addr} (Fc : Fld Z h a "java/lang/String" "coder" "B" (.int 0)) :
    Con l (⟨"java/lang/String", "coder", "()B"⟩ : MethodName) jdk_42_method_152_code 1 (some .byte) [] ({ frames := 0, cells := 0, slots := 0, locals := 0 } : Room) Z #[.ref a] h (fun v h' => v = some (.int 0) ∧ h' = h) := by
  refine con_intro (by first | exact plainFor_of_name pnS | decide +kernel) hE ?_
  intro p e s m below meth c T K hret hlk hnm
  have ef : entryFrame m #[.ref a] 1 = (mkF m 0 #[.val (.ref a)] []) := by first | (simp [entryFrame, mkF, argsToLocals, Value.category]; done) | rfl
  rw [ef]
  refine r_getS (pc' := 3) K (hw _ (List.mem_of_getElem? (i := 40) rfl)) (Cs.ext K.ext) dcd_0 rfl ?_
  intro T1 K1
  refine r_if (pc1 := 6) (pc2 := 13) K1 dcd_3 rfl (by decide) (by decide) ?_ ?_
  · intro (hc : cs0 = (0 : Int32))
    exact absurd hc hcs
  · intro (hc : ¬ cs0 = (0 : Int32))
    refine r_aloadN (pc' := 7) K1 dcd_6 rfl rfl rfl ?_
    refine r_getF (pc' := 10) K1 (hw _ (List.mem_of_getElem? (i := 30) rfl)) Fc dcd_7 rfl ?_
    intro T2 K2
    refine r_goto (pc' := 14) K2 dcd_10 (by decide) (by decide) ?_
    exact r_retB K2 hret hlk (by decide) dcd_14 (by decide) (by decide) ⟨rfl, rfl⟩
set_option maxRecDepth 65536 in
set_option maxHeartbeats 4000000 in
theorem s_cod1 (l : Launch) {Z : State} {a0 : Array Value} (hw : ∀ d ∈ tables_1, d.before a0 Z = true) {h : Heap} (hE : Ext Z.heap h) {cs0 : Int32} (Cs : Sta Z Z.heap "java/lang/String" "COMPACT_STRINGS" "Z" (.int cs0)) (hcs : ¬ cs0 = 0) {a : Addr} (Fc : Fld Z h a "java/lang/String" "coder" "B" (.int 1)) :
    Con l (⟨"java/lang/String", "coder", "()B"⟩ : MethodName) jdk_42_method_152_code 1 (some .byte) [] ({ frames := 0, cells := 0, slots := 0, locals := 0 } : Room) Z #[.ref a] h (fun v h' => v = some (.int 1) ∧ h' = h) := by
  refine con_intro (by first | exact plainFor_of_name pnS | decide +kernel) hE ?_
  intro p e s m below meth c T K hret hlk hnm
  have ef : entryFrame m #[.ref a] 1 = (mkF m 0 #[.val (.ref a)] []) := by first | (simp [entryFrame, mkF, argsToLocals, Value.category]; done) | rfl
  rw [ef]
  refine r_getS (pc' := 3) K (hw _ (List.mem_of_getElem? (i := 40) rfl)) (Cs.ext K.ext) dcd_0 rfl ?_
  intro T1 K1
  refine r_if (pc1 := 6) (pc2 := 13) K1 dcd_3 rfl (by decide) (by decide) ?_ ?_
  · intro (hc : cs0 = (0 : Int32))
    exact absurd hc hcs
  · intro (hc : ¬ cs0 = (0 : Int32))
    refine r_aloadN (pc' := 7) K1 dcd_6 rfl rfl rfl ?_
    refine r_getF (pc' := 10) K1 (hw _ (List.mem_of_getElem? (i := 30) rfl)) Fc dcd_7 rfl ?_
    intro T2 K2
    refine r_goto (pc' := 14) K2 dcd_10 (by decide) (by decide) ?_
    exact r_retB K2 hret hlk (by decide) dcd_14 (by decide) (by decide) ⟨rfl, rfl⟩
set_option maxRecDepth 65536 in
set_option maxHeartbeats 4000000 in
theorem s_len (l : Launch) {Z : State} {a0 : Array Value} (hw : ∀ d ∈ tables_1, d.before a0 Z = true) {h : Heap} (hE : Ext Z.heap h) {cs0 : Int32} (Cs : Sta Z Z.heap "java/lang/String" "COMPACT_STRINGS" "Z" (.int cs0)) (hcs : ¬ cs0 = 0) {a : Addr} {cs : List Int32} (hn : cs.length ≤ 4) (F : StrC Z h a cs) :
    Con l (⟨"java/lang/String", "length", "()I"⟩ : MethodName) jdk_42_method_54_code 1 (some .int) [] ({ frames := 1, cells := 0, slots := 0, locals := 13 } : Room) Z #[.ref a] h (fun v h' => v = some (.int (Int32.ofNat cs.length)) ∧ h' = h) := by
  refine con_intro (by first | exact plainFor_of_name pnS | decide +kernel) hE ?_
  intro p e s m below meth c T K hret hlk hnm
  have ef : entryFrame m #[.ref a] 1 = (mkF m 0 #[.val (.ref a)] []) := by first | (simp [entryFrame, mkF, argsToLocals, Value.category]; done) | rfl
  rw [ef]
  rcases F with ⟨⟨b, k, E, Fc, Fv, A⟩, -⟩ | ⟨b, k, E, Fc, Fv, A⟩
  · skip
    refine r_aloadN (pc' := 1) K dln_0 rfl rfl rfl ?_
    refine r_getF (pc' := 4) K (hw _ (List.mem_of_getElem? (i := 29) rfl)) Fv dln_1 rfl ?_
    intro T1 K1
    refine r_alen (pc' := 5) K1 A dln_4 rfl ?_
    refine r_aloadN (pc' := 6) K1 dln_5 rfl rfl rfl ?_
    refine r_virtual (pc' := 9) (argsL := []) (rest := [.int (Int32.ofNat (cs.map byt).length)]) (W := 1) K1 (s_cod0 l hw hE Cs hcs Fc) E (hw _ (List.mem_of_getElem? (i := 59) rfl)) (hw _ (List.mem_of_getElem? (i := 60) rfl)) (hw _ (List.mem_of_getElem? (i := 62) rfl)) (hw _ (List.mem_of_getElem? (i := 61) rfl)) (hw _ (List.mem_of_getElem? (i := 8) rfl)) (hw _ (List.mem_of_getElem? (i := 63) rfl)) (by decide) pdB rfl rfl rfl (Nat.le_refl _) (by decide) (by decide) (by decide) (by decide) dln_6 rfl ?_
    rintro _ T2 _ K2 ⟨rfl, rfl⟩
    refine r_ishr (pc' := 10) K2 dln_9 rfl ?_
    rw [own_shr0, List.length_map]
    exact r_retI K2 hret hlk dln_10 (by decide) (by decide) ⟨rfl, rfl⟩
  · skip
    refine r_aloadN (pc' := 1) K dln_0 rfl rfl rfl ?_
    refine r_getF (pc' := 4) K (hw _ (List.mem_of_getElem? (i := 29) rfl)) Fv dln_1 rfl ?_
    intro T1 K1
    refine r_alen (pc' := 5) K1 A dln_4 rfl ?_
    refine r_aloadN (pc' := 6) K1 dln_5 rfl rfl rfl ?_
    refine r_virtual (pc' := 9) (argsL := []) (rest := [.int (Int32.ofNat (2 * cs.length))]) (W := 1) K1 (s_cod1 l hw hE Cs hcs Fc) E (hw _ (List.mem_of_getElem? (i := 59) rfl)) (hw _ (List.mem_of_getElem? (i := 60) rfl)) (hw _ (List.mem_of_getElem? (i := 62) rfl)) (hw _ (List.mem_of_getElem? (i := 61) rfl)) (hw _ (List.mem_of_getElem? (i := 8) rfl)) (hw _ (List.mem_of_getElem? (i := 63) rfl)) (by decide) pdB rfl rfl rfl (Nat.le_refl _) (by decide) (by decide) (by decide) (by decide) dln_6 rfl ?_
    rintro _ T2 _ K2 ⟨rfl, rfl⟩
    refine r_ishr (pc' := 10) K2 dln_9 rfl ?_
    rw [own_half (by omega)]
    exact r_retI K2 hret hlk dln_10 (by decide) (by decide) ⟨rfl, rfl⟩
set_option maxRecDepth 65536 in
set_option maxHeartbeats 4000000 in
theorem s_pci (l : Launch) {Z : State} {a0 : Array Value} (hw : ∀ d ∈ tables_1, d.before a0 Z = true) {h : Heap} (hE : Ext Z.heap h) {i k0 : Nat} {fm : Value} (hfm : fm.isRef = true) (hi : i < k0) (hk : k0 ≤ 255) :
    Con l (⟨"jdk/internal/util/Preconditions", "checkIndex", "(IILjava/util/function/BiFunction;)I"⟩ : MethodName) jdk_41_method_11_code 3 (some .int) [] ({ frames := 0, cells := 0, slots := 0, locals := 0 } : Room) Z #[.int (Int32.ofNat i), .int (Int32.ofNat k0), fm] h (fun v h' => v = some (.int (Int32.ofNat i)) ∧ h' = h) := by
  refine con_intro (by first | exact plainFor_of_name pnP | decide +kernel) hE ?_
  intro p e s m below meth c T K hret hlk hnm
  have ef : entryFrame m #[.int (Int32.ofNat i), .int (Int32.ofNat k0), fm] 3 = (mkF m 0 #[.val (.int (Int32.ofNat i)), .val (.int (Int32.ofNat k0)), .val (fm)] []) := by rcases ref_cases hfm with rfl | ⟨q, rfl⟩ <;> first | (simp [entryFrame, mkF, argsToLocals, Value.category]; done) | rfl
  rw [ef]
  refine r_iloadN (pc' := 1) K dpi_0 rfl rfl ?_
  refine r_if (pc1 := 4) (pc2 := 9) K dpi_1 rfl (by decide) (by decide) ?_ ?_
  · intro (hc : (Int32.ofNat i) < (0 : Int32))
    exact absurd hc (own_nn (by omega))
  · intro (hc : ¬ (Int32.ofNat i) < (0 : Int32))
    refine r_iloadN (pc' := 5) K dpi_4 rfl rfl ?_
    refine r_iloadN (pc' := 6) K dpi_5 rfl rfl ?_
    refine r_icmp (pc1 := 9) (pc2 := 16) K dpi_6 rfl (by decide) (by decide) ?_ ?_
    · intro (hc2 : (Int32.ofNat i) < (Int32.ofNat k0))
      refine r_iloadN (pc' := 17) K dpi_16 rfl rfl ?_
      exact r_retI K hret hlk dpi_17 (by decide) (by decide) ⟨rfl, rfl⟩
    · intro (hc2 : ¬ (Int32.ofNat i) < (Int32.ofNat k0))
      exact absurd (own_lt hi hk) hc2
set_option maxRecDepth 65536 in
set_option maxHeartbeats 4000000 in
theorem s_ci (l : Launch) {Z : State} {a0 : Array Value} (hw : ∀ d ∈ tables_1, d.before a0 Z = true) {h : Heap} (hE : Ext Z.heap h) {fm : Value} (Sf : Sta Z Z.heap "jdk/internal/util/Preconditions" "SIOOBE_FORMATTER" "Ljava/util/function/BiFunction;" fm) (hfm : fm.isRef = true) {i k0 : Nat} (hi : i < k0) (hk : k0 ≤ 255) :
    Con l (⟨"java/lang/String", "checkIndex", "(II)V"⟩ : MethodName) jdk_42_method_155_code 2 none [] ({ frames := 1, cells := 0, slots := 0, locals := 14 } : Room) Z #[.int (Int32.ofNat i), .int (Int32.ofNat k0)] h (fun v h' => v = none ∧ h' = h) := by
  refine con_intro (by first | exact plainFor_of_name pnS | decide +kernel) hE ?_
  intro p e s m below meth c T K hret hlk hnm
  have ef : entryFrame m #[.int (Int32.ofNat i), .int (Int32.ofNat k0)] 2 = (mkF m 0 #[.val (.int (Int32.ofNat i)), .val (.int (Int32.ofNat k0))] []) := by first | (simp [entryFrame, mkF, argsToLocals, Value.category]; done) | rfl
  rw [ef]
  refine r_iloadN (pc' := 1) K dck_0 rfl rfl ?_
  refine r_iloadN (pc' := 2) K dck_1 rfl rfl ?_
  refine r_getS (pc' := 5) K (hw _ (List.mem_of_getElem? (i := 81) rfl)) (Sf.ext K.ext) dck_2 rfl ?_
  intro T1 K1
  refine r_static (pc' := 8) (argsL := [.int (Int32.ofNat i), .int (Int32.ofNat k0), fm]) (rest := []) (W := 0) K1 (s_pci l hw hE hfm hi hk) (hw _ (List.mem_of_getElem? (i := 83) rfl)) (hw _ (List.mem_of_getElem? (i := 84) rfl)) (hw _ (List.mem_of_getElem? (i := 82) rfl)) (hw _ (List.mem_of_getElem? (i := 85) rfl)) (by decide) pdPCI rfl rfl rfl (Nat.le_refl _) (by decide) (by decide) (by decide) (by decide) dck_5 rfl ?_
  rintro _ T2 _ K2 ⟨rfl, rfl⟩
  refine r_pop (pc' := 9) K2 dck_8 rfl rfl ?_
  exact r_retV K2 hret hlk dck_9 (by decide) (by decide) ⟨rfl, rfl⟩
set_option maxRecDepth 65536 in
set_option maxHeartbeats 4000000 in
theorem s_lca (l : Launch) {Z : State} {a0 : Array Value} (hw : ∀ d ∈ tables_1, d.before a0 Z = true) {h : Heap} (hE : Ext Z.heap h) {fm : Value} (Sf : Sta Z Z.heap "jdk/internal/util/Preconditions" "SIOOBE_FORMATTER" "Ljava/util/function/BiFunction;" fm) (hfm : fm.isRef = true) {b : Addr} {kb : ClassId} {cs : List Int32} (hn : cs.length ≤ 4) (A : Arv Z h b kb .byte (Int32.ofNat cs.length) ((cs.map byt).map Value.int) (.int 0)) {i : Nat} {x : Int32} (hx : cs[i]? = some x) (hch : Ch x) (hlt : ¬ 255 < x) :
    Con l (⟨"java/lang/StringLatin1", "charAt", "([BI)C"⟩ : MethodName) jdk_43_method_2_code 2 (some .char) [] ({ frames := 2, cells := 0, slots := 0, locals := 27 } : Room) Z #[.ref b, .int (Int32.ofNat i)] h (fun v h' => v = some (.int x) ∧ h' = h) := by
  refine con_intro (by first | exact plainFor_of_name pnL1 | decide +kernel) hE ?_
  intro p e s m below meth c T K hret hlk hnm
  have ef : entryFrame m #[.ref b, .int (Int32.ofNat i)] 2 = (mkF m 0 #[.val (.ref b), .val (.int (Int32.ofNat i))] []) := by first | (simp [entryFrame, mkF, argsToLocals, Value.category]; done) | rfl
  rw [ef]
  have hi := (List.getElem?_eq_some_iff.mp hx).1
  refine r_iloadN (pc' := 1) K dlc_0 rfl rfl ?_
  refine r_aloadN (pc' := 2) K dlc_1 rfl rfl rfl ?_
  refine r_alen (pc' := 3) K A dlc_2 rfl ?_
  refine r_static (pc' := 6) (argsL := [.int (Int32.ofNat i), .int (Int32.ofNat cs.length)]) (rest := []) (W := 0) K (s_ci l hw hE Sf hfm hi (by omega)) (hw _ (List.mem_of_getElem? (i := 78) rfl)) (hw _ (List.mem_of_getElem? (i := 79) rfl)) (hw _ (List.mem_of_getElem? (i := 8) rfl)) (hw _ (List.mem_of_getElem? (i := 80) rfl)) (by decide) pdIIV rfl rfl rfl (Nat.le_refl _) (by decide) (by decide) (by decide) (by decide) dlc_3 rfl ?_
  rintro _ T1 _ K1 ⟨rfl, rfl⟩
  refine r_aloadN (pc' := 7) K1 dlc_6 rfl rfl rfl ?_
  refine r_iloadN (pc' := 8) K1 dlc_7 rfl rfl ?_
  refine r_baload (pc' := 9) (v := .int (byt x)) K1 A ⟨own_nn (by omega), own_lt (by omega) (by omega)⟩ (by rw [own_n32 (by omega)]; exact own_gv (by rw [List.getElem?_map, hx]; rfl)) dlc_8 rfl ?_
  refine r_sipush (v := (255 : Int32)) (pc' := 12) K1 dlc_9 rfl (by decide) ?_
  refine r_iand (pc' := 13) K1 dlc_12 rfl ?_
  refine r_i2c (pc' := 14) K1 dlc_13 rfl ?_
  rw [own_get8 hch hlt]
  exact r_retC K1 hret hlk (own_narC hch) dlc_14 (by decide) (by decide) ⟨rfl, rfl⟩
set_option maxRecDepth 65536 in
set_option maxHeartbeats 4000000 in
theorem s_ul (l : Launch) {Z : State} {a0 : Array Value} (hw : ∀ d ∈ tables_1, d.before a0 Z = true) {h : Heap} (hE : Ext Z.heap h) {b : Addr} {kb : ClassId} {cs : List Int32} (hn : cs.length ≤ 4) (A : Arv Z h b kb .byte (Int32.ofNat (2 * cs.length)) ((enc cs).map Value.int) (.int 0)) :
    Con l (⟨"java/lang/StringUTF16", "length", "([B)I"⟩ : MethodName) jdk_52_method_6_code 1 (some .int) [] ({ frames := 0, cells := 0, slots := 0, locals := 0 } : Room) Z #[.ref b] h (fun v h' => v = some (.int (Int32.ofNat cs.length)) ∧ h' = h) := by
  refine con_intro (by first | exact plainFor_of_name pnU | decide +kernel) hE ?_
  intro p e s m below meth c T K hret hlk hnm
  have ef : entryFrame m #[.ref b] 1 = (mkF m 0 #[.val (.ref b)] []) := by first | (simp [entryFrame, mkF, argsToLocals, Value.category]; done) | rfl
  rw [ef]
  refine r_aloadN (pc' := 1) K dul_0 rfl rfl rfl ?_
  refine r_alen (pc' := 2) K A dul_1 rfl ?_
  refine r_iconst (v := (1 : Int32)) (pc' := 3) K dul_2 rfl (by decide) ?_
  refine r_ishr (pc' := 4) K dul_3 rfl ?_
  rw [own_half (by omega)]
  exact r_retI K hret hlk dul_4 (by decide) (by decide) ⟨rfl, rfl⟩
set_option maxRecDepth 65536 in
set_option maxHeartbeats 4000000 in
theorem s_ui (l : Launch) {Z : State} {a0 : Array Value} (hw : ∀ d ∈ tables_1, d.before a0 Z = true) {h : Heap} (hE : Ext Z.heap h) {fm : Value} (Sf : Sta Z Z.heap "jdk/internal/util/Preconditions" "SIOOBE_FORMATTER" "Ljava/util/function/BiFunction;" fm) (hfm : fm.isRef = true) {b : Addr} {kb : ClassId} {cs : List Int32} (hn : cs.length ≤ 4) (A : Arv Z h b kb .byte (Int32.ofNat (2 * cs.length)) ((enc cs).map Value.int) (.int 0)) {i : Nat} (hi : i < cs.length) :
    Con l (⟨"java/lang/StringUTF16", "checkIndex", "(I[B)V"⟩ : MethodName) jdk_52_method_91_code 2 none [] ({ frames := 2, cells := 0, slots := 0, locals := 27 } : Room) Z #[.int (Int32.ofNat i), .ref b] h (fun v h' => v = none ∧ h' = h) := by
  refine con_intro (by first | exact plainFor_of_name pnU | decide +kernel) hE ?_
  intro p e s m below meth c T K hret hlk hnm
  have ef : entryFrame m #[.int (Int32.ofNat i), .ref b] 2 = (mkF m 0 #[.val (.int (Int32.ofNat i)), .val (.ref b)] []) := by first | (simp [entryFrame, mkF, argsToLocals, Value.category]; done) | rfl
  rw [ef]
  refine r_iloadN (pc' := 1) K dui_0 rfl rfl ?_
  refine r_aloadN (pc' := 2) K dui_1 rfl rfl rfl ?_
  refine r_static (pc' := 5) (argsL := [.ref b]) (rest := [.int (Int32.ofNat i)]) (W := 1) K (s_ul l hw hE hn A) (hw _ (List.mem_of_getElem? (i := 111) rfl)) (hw _ (List.mem_of_getElem? (i := 112) rfl)) (hw _ (List.mem_of_getElem? (i := 43) rfl)) (hw _ (List.mem_of_getElem? (i := 113) rfl)) (by decide) pdBI rfl rfl rfl (Nat.le_refl _) (by decide) (by decide) (by decide) (by decide) dui_2 rfl ?_
  rintro _ T1 _ K1 ⟨rfl, rfl⟩
  refine r_static (pc' := 8) (argsL := [.int (Int32.ofNat i), .int (Int32.ofNat cs.length)]) (rest := []) (W := 0) K1 (s_ci l hw hE Sf hfm hi (by omega)) (hw _ (List.mem_of_getElem? (i := 114) rfl)) (hw _ (List.mem_of_getElem? (i := 79) rfl)) (hw _ (List.mem_of_getElem? (i := 8) rfl)) (hw _ (List.mem_of_getElem? (i := 80) rfl)) (by decide) pdIIV rfl rfl rfl (Nat.le_refl _) (by decide) (by decide) (by decide) (by decide) dui_5 rfl ?_
  rintro _ T2 _ K2 ⟨rfl, rfl⟩
  exact r_retV K2 hret hlk dui_8 (by decide) (by decide) ⟨rfl, rfl⟩
set_option maxRecDepth 65536 in
set_option maxHeartbeats 4000000 in
theorem s_uca (l : Launch) {Z : State} {a0 : Array Value} (hw : ∀ d ∈ tables_1, d.before a0 Z = true) {h : Heap} (hE : Ext Z.heap h) (Sad : Sta Z Z.heap "java/lang/StringUTF16" "$assertionsDisabled" "Z" (.int 1)) (Shi : Sta Z Z.heap "java/lang/StringUTF16" "HI_BYTE_SHIFT" "I" (.int 0)) (Slo : Sta Z Z.heap "java/lang/StringUTF16" "LO_BYTE_SHIFT" "I" (.int 8)) {fm : Value} (Sf : Sta Z Z.heap "jdk/internal/util/Preconditions" "SIOOBE_FORMATTER" "Ljava/util/function/BiFunction;" fm) (hfm : fm.isRef = true) {b : Addr} {kb : ClassId} {cs : List Int32} (hn : cs.length ≤ 4) (A : Arv Z h b kb .byte (Int32.ofNat (2 * cs.length)) ((enc cs).map Value.int) (.int 0)) {i : Nat} {x : Int32} (hx : cs[i]? = some x) (hch : Ch x) :
    Con l (⟨"java/lang/StringUTF16", "charAt", "([BI)C"⟩ : MethodName) jdk_52_method_83_code 2 (some .char) [] ({ frames := 3, cells := 0, slots := 0, locals := 40 } : Room) Z #[.ref b, .int (Int32.ofNat i)] h (fun v h' => v = some (.int x) ∧ h' = h) := by
  refine con_intro (by first | exact plainFor_of_name pnU | decide +kernel) hE ?_
  intro p e s m below meth c T K hret hlk hnm
  have ef : entryFrame m #[.ref b, .int (Int32.ofNat i)] 2 = (mkF m 0 #[.val (.ref b), .val (.int (Int32.ofNat i))] []) := by first | (simp [entryFrame, mkF, argsToLocals, Value.category]; done) | rfl
  rw [ef]
  have hi := (List.getElem?_eq_some_iff.mp hx).1
  refine r_iloadN (pc' := 1) K duc_0 rfl rfl ?_
  refine r_aloadN (pc' := 2) K duc_1 rfl rfl rfl ?_
  refine r_static (pc' := 5) (argsL := [.int (Int32.ofNat i), .ref b]) (rest := []) (W := 0) K (s_ui l hw hE Sf hfm hn A hi) (hw _ (List.mem_of_getElem? (i := 108) rfl)) (hw _ (List.mem_of_getElem? (i := 109) rfl)) (hw _ (List.mem_of_getElem? (i := 43) rfl)) (hw _ (List.mem_of_getElem? (i := 110) rfl)) (by decide) pdIBV rfl rfl rfl (Nat.le_refl _) (by decide) (by decide) (by decide) (by decide) duc_2 rfl ?_
  rintro _ T1 _ K1 ⟨rfl, rfl⟩
  refine r_aloadN (pc' := 6) K1 duc_5 rfl rfl rfl ?_
  refine r_iloadN (pc' := 7) K1 duc_6 rfl rfl ?_
  refine r_static (pc' := 10) (argsL := [.ref b, .int (Int32.ofNat i)]) (rest := []) (W := 0) K1 (u_get l hw hE Sad Shi Slo hn A hx hch) (hw _ (List.mem_of_getElem? (i := 102) rfl)) (hw _ (List.mem_of_getElem? (i := 103) rfl)) (hw _ (List.mem_of_getElem? (i := 43) rfl)) (hw _ (List.mem_of_getElem? (i := 104) rfl)) (by decide) pdGC rfl rfl rfl (Nat.le_refl _) (by decide) (by decide) (by decide) (by decide) duc_7 rfl ?_
  rintro _ T2 _ K2 ⟨rfl, rfl⟩
  exact r_retC K2 hret hlk (own_narC hch) duc_10 (by decide) (by decide) ⟨rfl, rfl⟩
set_option maxRecDepth 65536 in
set_option maxHeartbeats 4000000 in
theorem s_il0 (l : Launch) {Z : State} {a0 : Array Value} (hw : ∀ d ∈ tables_1, d.before a0 Z = true) {h : Heap} (hE : Ext Z.heap h) {cs0 : Int32} (Cs : Sta Z Z.heap "java/lang/String" "COMPACT_STRINGS" "Z" (.int cs0)) (hcs : ¬ cs0 = 0) {a : Addr} (Fc : Fld Z h a "java/lang/String" "coder" "B" (.int 0)) :
    Con l (⟨"java/lang/String", "isLatin1", "()Z"⟩ : MethodName) jdk_42_method_154_code 1 (some .boolean) [] ({ frames := 0, cells := 0, slots := 0, locals := 0 } : Room) Z #[.ref a] h (fun v h' => v = some (.int 1) ∧ h' = h) := by
  refine con_intro (by first | exact plainFor_of_name pnS | decide +kernel) hE ?_
  intro p e s m below meth c T K hret hlk hnm
  have ef : entryFrame m #[.ref a] 1 = (mkF m 0 #[.val (.ref a)] []) := by first | (simp [entryFrame, mkF, argsToLocals, Value.category]; done) | rfl
  rw [ef]
  refine r_getS (pc' := 3) K (hw _ (List.mem_of_getElem? (i := 40) rfl)) (Cs.ext K.ext) dil_0 rfl ?_
  intro T1 K1
  refine r_if (pc1 := 6) (pc2 := 17) K1 dil_3 rfl (by decide) (by decide) ?_ ?_
  · intro (hc : cs0 = (0 : Int32))
    exact absurd hc hcs
  · intro (hc : ¬ cs0 = (0 : Int32))
    refine r_aloadN (pc' := 7) K1 dil_6 rfl rfl rfl ?_
    refine r_getF (pc' := 10) K1 (hw _ (List.mem_of_getElem? (i := 30) rfl)) Fc dil_7 rfl ?_
    intro T2 K2
    refine r_if (pc1 := 13) (pc2 := 17) K2 dil_10 rfl (by decide) (by decide) ?_ ?_
    · intro (hc2 : ¬ (0 : Int32) = (0 : Int32))
      exact absurd rfl hc2
    · intro (hc2 : (0 : Int32) = (0 : Int32))
      refine r_iconst (v := (1 : Int32)) (pc' := 14) K2 dil_13 rfl (by decide) ?_
      refine r_goto (pc' := 18) K2 dil_14 (by decide) (by decide) ?_
      exact r_retZ K2 hret hlk (by decide) dil_18 (by decide) (by decide) ⟨rfl, rfl⟩
set_option maxRecDepth 65536 in
set_option maxHeartbeats 4000000 in
theorem s_il1 (l : Launch) {Z : State} {a0 : Array Value} (hw : ∀ d ∈ tables_1, d.before a0 Z = true) {h : Heap} (hE : Ext Z.heap h) {cs0 : Int32} (Cs : Sta Z Z.heap "java/lang/String" "COMPACT_STRINGS" "Z" (.int cs0)) (hcs : ¬ cs0 = 0) {a : Addr} (Fc : Fld Z h a "java/lang/String" "coder" "B" (.int 1)) :
    Con l (⟨"java/lang/String", "isLatin1", "()Z"⟩ : MethodName) jdk_42_method_154_code 1 (some .boolean) [] ({ frames := 0, cells := 0, slots := 0, locals := 0 } : Room) Z #[.ref a] h (fun v h' => v = some (.int 0) ∧ h' = h) := by
  refine con_intro (by first | exact plainFor_of_name pnS | decide +kernel) hE ?_
  intro p e s m below meth c T K hret hlk hnm
  have ef : entryFrame m #[.ref a] 1 = (mkF m 0 #[.val (.ref a)] []) := by first | (simp [entryFrame, mkF, argsToLocals, Value.category]; done) | rfl
  rw [ef]
  refine r_getS (pc' := 3) K (hw _ (List.mem_of_getElem? (i := 40) rfl)) (Cs.ext K.ext) dil_0 rfl ?_
  intro T1 K1
  refine r_if (pc1 := 6) (pc2 := 17) K1 dil_3 rfl (by decide) (by decide) ?_ ?_
  · intro (hc : cs0 = (0 : Int32))
    exact absurd hc hcs
  · intro (hc : ¬ cs0 = (0 : Int32))
    refine r_aloadN (pc' := 7) K1 dil_6 rfl rfl rfl ?_
    refine r_getF (pc' := 10) K1 (hw _ (List.mem_of_getElem? (i := 30) rfl)) Fc dil_7 rfl ?_
    intro T2 K2
    refine r_if (pc1 := 13) (pc2 := 17) K2 dil_10 rfl (by decide) (by decide) ?_ ?_
    · intro (hc2 : ¬ (1 : Int32) = (0 : Int32))
      refine r_iconst (v := (0 : Int32)) (pc' := 18) K2 dil_17 rfl (by decide) ?_
      exact r_retZ K2 hret hlk (by decide) dil_18 (by decide) (by decide) ⟨rfl, rfl⟩
    · intro (hc2 : (1 : Int32) = (0 : Int32))
      exact absurd hc2 (by decide)
set_option maxRecDepth 65536 in
set_option maxHeartbeats 4000000 in
theorem s_ca (l : Launch) {Z : State} {a0 : Array Value} (hw : ∀ d ∈ tables_1, d.before a0 Z = true) {h : Heap} (hE : Ext Z.heap h) {cs0 : Int32} (Cs : Sta Z Z.heap "java/lang/String" "COMPACT_STRINGS" "Z" (.int cs0)) (hcs : ¬ cs0 = 0) (Sad : Sta Z Z.heap "java/lang/StringUTF16" "$assertionsDisabled" "Z" (.int 1)) (Shi : Sta Z Z.heap "java/lang/StringUTF16" "HI_BYTE_SHIFT" "I" (.int 0)) (Slo : Sta Z Z.heap "java/lang/StringUTF16" "LO_BYTE_SHIFT" "I" (.int 8)) {fm : Value} (Sf : Sta Z Z.heap "jdk/internal/util/Preconditions" "SIOOBE_FORMATTER" "Ljava/util/function/BiFunction;" fm) (hfm : fm.isRef = true) {a : Addr} {cs : List Int32} (hn : cs.length ≤ 4) (F : StrC Z h a cs) {i : Nat} {x : Int32} (hx : cs[i]? = some x) (hch : Ch x) :
    Con l (⟨"java/lang/String", "charAt", "(I)C"⟩ : MethodName) jdk_42_method_56_code 2 (some .char) [] ({ frames := 4, cells := 0, slots := 0, locals := 53 } : Room) Z #[.ref a, .int (Int32.ofNat i)] h (fun v h' => v = some (.int x) ∧ h' = h) := by
  refine con_intro (by first | exact plainFor_of_name pnS | decide +kernel) hE ?_
  intro p e s m below meth c T K hret hlk hnm
  have ef : entryFrame m #[.ref a, .int (Int32.ofNat i)] 2 = (mkF m 0 #[.val (.ref a), .val (.int (Int32.ofNat i))] []) := by first | (simp [entryFrame, mkF, argsToLocals, Value.category]; done) | rfl
  rw [ef]
  rcases F with ⟨⟨b, k, E, Fc, Fv, A⟩, hl⟩ | ⟨b, k, E, Fc, Fv, A⟩
  · skip
    refine r_aloadN (pc' := 1) K dca_0 rfl rfl rfl ?_
    refine r_virtual (pc' := 4) (argsL := []) (rest := []) (W := 0) K (s_il0 l hw hE Cs hcs Fc) E (hw _ (List.mem_of_getElem? (i := 69) rfl)) (hw _ (List.mem_of_getElem? (i := 70) rfl)) (hw _ (List.mem_of_getElem? (i := 72) rfl)) (hw _ (List.mem_of_getElem? (i := 71) rfl)) (hw _ (List.mem_of_getElem? (i := 8) rfl)) (hw _ (List.mem_of_getElem? (i := 73) rfl)) (by decide) pdZ rfl rfl rfl (Nat.le_refl _) (by decide) (by decide) (by decide) (by decide) dca_1 rfl ?_
    rintro _ T1 _ K1 ⟨rfl, rfl⟩
    refine r_if (pc1 := 7) (pc2 := 16) K1 dca_4 rfl (by decide) (by decide) ?_ ?_
    · intro (hc : (1 : Int32) = (0 : Int32))
      exact absurd hc (by decide)
    · intro (hc : ¬ (1 : Int32) = (0 : Int32))
      refine r_aloadN (pc' := 8) K1 dca_7 rfl rfl rfl ?_
      refine r_getF (pc' := 11) K1 (hw _ (List.mem_of_getElem? (i := 29) rfl)) Fv dca_8 rfl ?_
      intro T2 K2
      refine r_iloadN (pc' := 12) K2 dca_11 rfl rfl ?_
      rw [List.length_map] at A
      refine r_static (pc' := 15) (argsL := [.ref b, .int (Int32.ofNat i)]) (rest := []) (W := 0) K2 (s_lca l hw hE Sf hfm hn A hx hch (hl i x hx)) (hw _ (List.mem_of_getElem? (i := 74) rfl)) (hw _ (List.mem_of_getElem? (i := 75) rfl)) (hw _ (List.mem_of_getElem? (i := 76) rfl)) (hw _ (List.mem_of_getElem? (i := 77) rfl)) (by decide) pdGC rfl rfl rfl (Nat.le_refl _) (by decide) (by decide) (by decide) (by decide) dca_12 rfl ?_
      rintro _ T3 _ K3 ⟨rfl, rfl⟩
      exact r_retC K3 hret hlk (own_narC hch) dca_15 (by decide) (by decide) ⟨rfl, rfl⟩
  · skip
    refine r_aloadN (pc' := 1) K dca_0 rfl rfl rfl ?_
    refine r_virtual (pc' := 4) (argsL := []) (rest := []) (W := 0) K (s_il1 l hw hE Cs hcs Fc) E (hw _ (List.mem_of_getElem? (i := 69) rfl)) (hw _ (List.mem_of_getElem? (i := 70) rfl)) (hw _ (List.mem_of_getElem? (i := 72) rfl)) (hw _ (List.mem_of_getElem? (i := 71) rfl)) (hw _ (List.mem_of_getElem? (i := 8) rfl)) (hw _ (List.mem_of_getElem? (i := 73) rfl)) (by decide) pdZ rfl rfl rfl (Nat.le_refl _) (by decide) (by decide) (by decide) (by decide) dca_1 rfl ?_
    rintro _ T1 _ K1 ⟨rfl, rfl⟩
    refine r_if (pc1 := 7) (pc2 := 16) K1 dca_4 rfl (by decide) (by decide) ?_ ?_
    · intro (hc : (0 : Int32) = (0 : Int32))
      refine r_aloadN (pc' := 17) K1 dca_16 rfl rfl rfl ?_
      refine r_getF (pc' := 20) K1 (hw _ (List.mem_of_getElem? (i := 29) rfl)) Fv dca_17 rfl ?_
      intro T2 K2
      refine r_iloadN (pc' := 21) K2 dca_20 rfl rfl ?_
      refine r_static (pc' := 24) (argsL := [.ref b, .int (Int32.ofNat i)]) (rest := []) (W := 0) K2 (s_uca l hw hE Sad Shi Slo Sf hfm hn A hx hch) (hw _ (List.mem_of_getElem? (i := 105) rfl)) (hw _ (List.mem_of_getElem? (i := 106) rfl)) (hw _ (List.mem_of_getElem? (i := 43) rfl)) (hw _ (List.mem_of_getElem? (i := 107) rfl)) (by decide) pdGC rfl rfl rfl (Nat.le_refl _) (by decide) (by decide) (by decide) (by decide) dca_21 rfl ?_
      rintro _ T3 _ K3 ⟨rfl, rfl⟩
      exact r_retC K3 hret hlk (own_narC hch) dca_24 (by decide) (by decide) ⟨rfl, rfl⟩
    · intro (hc : ¬ (0 : Int32) = (0 : Int32))
      exact absurd rfl hc
theorem ddr_0 : decode method_2_code 0 = .ok (.iload_n 0, 1) := by decide +kernel
theorem ddr_1 : decode method_2_code 1 = .ok (.iconst 1, 1) := by decide +kernel
theorem ddr_2 : decode method_2_code 2 = .ok (.iand, 1) := by decide +kernel
theorem ddr_3 : decode method_2_code 3 = .ok (.ifCond .eq 11, 3) := by decide +kernel
theorem ddr_6 : decode method_2_code 6 = .ok (.iload_n 0, 1) := by decide +kernel
theorem ddr_7 : decode method_2_code 7 = .ok (.iconst 1, 1) := by decide +kernel
theorem ddr_8 : decode method_2_code 8 = .ok (.iushr, 1) := by decide +kernel
theorem ddr_9 : decode method_2_code 9 = .ok (.bipush 127, 2) := by decide +kernel
theorem ddr_11 : decode method_2_code 11 = .ok (.iand, 1) := by decide +kernel
theorem ddr_12 : decode method_2_code 12 = .ok (.i2c, 1) := by decide +kernel
theorem ddr_13 : decode method_2_code 13 = .ok (.ireturn, 1) := by decide +kernel
theorem ddr_14 : decode method_2_code 14 = .ok (.iload_n 0, 1) := by decide +kernel
theorem ddr_15 : decode method_2_code 15 = .ok (.iconst 1, 1) := by decide +kernel
theorem ddr_16 : decode method_2_code 16 = .ok (.iushr, 1) := by decide +kernel
theorem ddr_17 : decode method_2_code 17 = .ok (.ldc 7, 2) := by decide +kernel
theorem ddr_19 : decode method_2_code 19 = .ok (.iand, 1) := by decide +kernel
theorem ddr_20 : decode method_2_code 20 = .ok (.i2c, 1) := by decide +kernel
theorem ddr_21 : decode method_2_code 21 = .ok (.ireturn, 1) := by decide +kernel
theorem dmk_0 : decode method_4_code 0 = .ok (.iload_n 0, 1) := by decide +kernel
theorem dmk_1 : decode method_4_code 1 = .ok (.ifCond .ne 7, 3) := by decide +kernel
theorem dmk_4 : decode method_4_code 4 = .ok (.iconst 0, 1) := by decide +kernel
theorem dmk_5 : decode method_4_code 5 = .ok (.newarray .char, 2) := by decide +kernel
theorem dmk_7 : decode method_4_code 7 = .ok (.areturn, 1) := by decide +kernel
theorem dmk_8 : decode method_4_code 8 = .ok (.iload_n 0, 1) := by decide +kernel
theorem dmk_9 : decode method_4_code 9 = .ok (.iconst 1, 1) := by decide +kernel
theorem dmk_10 : decode method_4_code 10 = .ok (.if_icmp .ne 11, 3) := by decide +kernel
theorem dmk_13 : decode method_4_code 13 = .ok (.iconst 1, 1) := by decide +kernel
theorem dmk_14 : decode method_4_code 14 = .ok (.newarray .char, 2) := by decide +kernel
theorem dmk_16 : decode method_4_code 16 = .ok (.dup, 1) := by decide +kernel
theorem dmk_17 : decode method_4_code 17 = .ok (.iconst 0, 1) := by decide +kernel
theorem dmk_18 : decode method_4_code 18 = .ok (.iload_n 1, 1) := by decide +kernel
theorem dmk_19 : decode method_4_code 19 = .ok (.castore, 1) := by decide +kernel
theorem dmk_20 : decode method_4_code 20 = .ok (.areturn, 1) := by decide +kernel
theorem dmk_21 : decode method_4_code 21 = .ok (.iload_n 0, 1) := by decide +kernel
theorem dmk_22 : decode method_4_code 22 = .ok (.iconst 2, 1) := by decide +kernel
theorem dmk_23 : decode method_4_code 23 = .ok (.if_icmp .ne 15, 3) := by decide +kernel
theorem dmk_26 : decode method_4_code 26 = .ok (.iconst 2, 1) := by decide +kernel
theorem dmk_27 : decode method_4_code 27 = .ok (.newarray .char, 2) := by decide +kernel
theorem dmk_29 : decode method_4_code 29 = .ok (.dup, 1) := by decide +kernel
theorem dmk_30 : decode method_4_code 30 = .ok (.iconst 0, 1) := by decide +kernel
theorem dmk_31 : decode method_4_code 31 = .ok (.iload_n 1, 1) := by decide +kernel
theorem dmk_32 : decode method_4_code 32 = .ok (.castore, 1) := by decide +kernel
theorem dmk_33 : decode method_4_code 33 = .ok (.dup, 1) := by decide +kernel
theorem dmk_34 : decode method_4_code 34 = .ok (.iconst 1, 1) := by decide +kernel
theorem dmk_35 : decode method_4_code 35 = .ok (.iload_n 2, 1) := by decide +kernel
theorem dmk_36 : decode method_4_code 36 = .ok (.castore, 1) := by decide +kernel
theorem dmk_37 : decode method_4_code 37 = .ok (.areturn, 1) := by decide +kernel
theorem dmk_38 : decode method_4_code 38 = .ok (.iload_n 0, 1) := by decide +kernel
theorem dmk_39 : decode method_4_code 39 = .ok (.iconst 3, 1) := by decide +kernel
theorem dmk_40 : decode method_4_code 40 = .ok (.if_icmp .ne 19, 3) := by decide +kernel
theorem dmk_43 : decode method_4_code 43 = .ok (.iconst 3, 1) := by decide +kernel
theorem dmk_44 : decode method_4_code 44 = .ok (.newarray .char, 2) := by decide +kernel
theorem dmk_46 : decode method_4_code 46 = .ok (.dup, 1) := by decide +kernel
theorem dmk_47 : decode method_4_code 47 = .ok (.iconst 0, 1) := by decide +kernel
theorem dmk_48 : decode method_4_code 48 = .ok (.iload_n 1, 1) := by decide +kernel
theorem dmk_49 : decode method_4_code 49 = .ok (.castore, 1) := by decide +kernel
theorem dmk_50 : decode method_4_code 50 = .ok (.dup, 1) := by decide +kernel
theorem dmk_51 : decode method_4_code 51 = .ok (.iconst 1, 1) := by decide +kernel
theorem dmk_52 : decode method_4_code 52 = .ok (.iload_n 2, 1) := by decide +kernel
theorem dmk_53 : decode method_4_code 53 = .ok (.castore, 1) := by decide +kernel
theorem dmk_54 : decode method_4_code 54 = .ok (.dup, 1) := by decide +kernel
theorem dmk_55 : decode method_4_code 55 = .ok (.iconst 2, 1) := by decide +kernel
theorem dmk_56 : decode method_4_code 56 = .ok (.iload_n 3, 1) := by decide +kernel
theorem dmk_57 : decode method_4_code 57 = .ok (.castore, 1) := by decide +kernel
theorem dmk_58 : decode method_4_code 58 = .ok (.areturn, 1) := by decide +kernel
theorem dmk_59 : decode method_4_code 59 = .ok (.iconst 4, 1) := by decide +kernel
theorem dmk_60 : decode method_4_code 60 = .ok (.newarray .char, 2) := by decide +kernel
theorem dmk_62 : decode method_4_code 62 = .ok (.dup, 1) := by decide +kernel
theorem dmk_63 : decode method_4_code 63 = .ok (.iconst 0, 1) := by decide +kernel
theorem dmk_64 : decode method_4_code 64 = .ok (.iload_n 1, 1) := by decide +kernel
theorem dmk_65 : decode method_4_code 65 = .ok (.castore, 1) := by decide +kernel
theorem dmk_66 : decode method_4_code 66 = .ok (.dup, 1) := by decide +kernel
theorem dmk_67 : decode method_4_code 67 = .ok (.iconst 1, 1) := by decide +kernel
theorem dmk_68 : decode method_4_code 68 = .ok (.iload_n 2, 1) := by decide +kernel
theorem dmk_69 : decode method_4_code 69 = .ok (.castore, 1) := by decide +kernel
theorem dmk_70 : decode method_4_code 70 = .ok (.dup, 1) := by decide +kernel
theorem dmk_71 : decode method_4_code 71 = .ok (.iconst 2, 1) := by decide +kernel
theorem dmk_72 : decode method_4_code 72 = .ok (.iload_n 3, 1) := by decide +kernel
theorem dmk_73 : decode method_4_code 73 = .ok (.castore, 1) := by decide +kernel
theorem dmk_74 : decode method_4_code 74 = .ok (.dup, 1) := by decide +kernel
theorem dmk_75 : decode method_4_code 75 = .ok (.iconst 3, 1) := by decide +kernel
theorem dmk_76 : decode method_4_code 76 = .ok (.iload 4, 2) := by decide +kernel
theorem dmk_78 : decode method_4_code 78 = .ok (.castore, 1) := by decide +kernel
theorem dmk_79 : decode method_4_code 79 = .ok (.areturn, 1) := by decide +kernel
theorem dnc_0 : decode method_3_code 0 = .ok (.iload_n 0, 1) := by decide +kernel
theorem dnc_1 : decode method_3_code 1 = .ok (.bipush 45, 2) := by decide +kernel
theorem dnc_3 : decode method_3_code 3 = .ok (.if_icmp .eq 9, 3) := by decide +kernel
theorem dnc_6 : decode method_3_code 6 = .ok (.iload_n 0, 1) := by decide +kernel
theorem dnc_7 : decode method_3_code 7 = .ok (.bipush 95, 2) := by decide +kernel
theorem dnc_9 : decode method_3_code 9 = .ok (.if_icmp .ne 5, 3) := by decide +kernel
theorem dnc_12 : decode method_3_code 12 = .ok (.iconst 1, 1) := by decide +kernel
theorem dnc_13 : decode method_3_code 13 = .ok (.ireturn, 1) := by decide +kernel
theorem dnc_14 : decode method_3_code 14 = .ok (.bipush 48, 2) := by decide +kernel
theorem dnc_16 : decode method_3_code 16 = .ok (.iload_n 0, 1) := by decide +kernel
theorem dnc_17 : decode method_3_code 17 = .ok (.if_icmp .gt 11, 3) := by decide +kernel
theorem dnc_20 : decode method_3_code 20 = .ok (.iload_n 0, 1) := by decide +kernel
theorem dnc_21 : decode method_3_code 21 = .ok (.bipush 57, 2) := by decide +kernel
theorem dnc_23 : decode method_3_code 23 = .ok (.if_icmp .gt 5, 3) := by decide +kernel
theorem dnc_26 : decode method_3_code 26 = .ok (.iconst 1, 1) := by decide +kernel
theorem dnc_27 : decode method_3_code 27 = .ok (.ireturn, 1) := by decide +kernel
theorem dnc_28 : decode method_3_code 28 = .ok (.bipush 65, 2) := by decide +kernel
theorem dnc_30 : decode method_3_code 30 = .ok (.iload_n 0, 1) := by decide +kernel
theorem dnc_31 : decode method_3_code 31 = .ok (.if_icmp .gt 11, 3) := by decide +kernel
theorem dnc_34 : decode method_3_code 34 = .ok (.iload_n 0, 1) := by decide +kernel
theorem dnc_35 : decode method_3_code 35 = .ok (.bipush 90, 2) := by decide +kernel
theorem dnc_37 : decode method_3_code 37 = .ok (.if_icmp .gt 5, 3) := by decide +kernel
theorem dnc_40 : decode method_3_code 40 = .ok (.iconst 1, 1) := by decide +kernel
theorem dnc_41 : decode method_3_code 41 = .ok (.ireturn, 1) := by decide +kernel
theorem dnc_42 : decode method_3_code 42 = .ok (.bipush 97, 2) := by decide +kernel
theorem dnc_44 : decode method_3_code 44 = .ok (.iload_n 0, 1) := by decide +kernel
theorem dnc_45 : decode method_3_code 45 = .ok (.if_icmp .gt 13, 3) := by decide +kernel
theorem dnc_48 : decode method_3_code 48 = .ok (.iload_n 0, 1) := by decide +kernel
theorem dnc_49 : decode method_3_code 49 = .ok (.bipush 122, 2) := by decide +kernel
theorem dnc_51 : decode method_3_code 51 = .ok (.if_icmp .gt 7, 3) := by decide +kernel
theorem dnc_54 : decode method_3_code 54 = .ok (.iconst 1, 1) := by decide +kernel
theorem dnc_55 : decode method_3_code 55 = .ok (.goto 4, 3) := by decide +kernel
theorem dnc_58 : decode method_3_code 58 = .ok (.iconst 0, 1) := by decide +kernel
theorem dnc_59 : decode method_3_code 59 = .ok (.ireturn, 1) := by decide +kernel
theorem din_0 : decode prog_6_method_5_code 0 = .ok (.aload_n 0, 1) := by decide +kernel
theorem din_1 : decode prog_6_method_5_code 1 = .ok (.invokevirtual 47, 3) := by decide +kernel
theorem din_4 : decode prog_6_method_5_code 4 = .ok (.ifCond .eq 5, 3) := by decide +kernel
theorem din_7 : decode prog_6_method_5_code 7 = .ok (.iconst 0, 1) := by decide +kernel
theorem din_8 : decode prog_6_method_5_code 8 = .ok (.ireturn, 1) := by decide +kernel
theorem din_9 : decode prog_6_method_5_code 9 = .ok (.iconst 0, 1) := by decide +kernel
theorem din_10 : decode prog_6_method_5_code 10 = .ok (.istore_n 1, 1) := by decide +kernel
theorem din_11 : decode prog_6_method_5_code 11 = .ok (.iload_n 1, 1) := by decide +kernel
theorem din_12 : decode prog_6_method_5_code 12 = .ok (.aload_n 0, 1) := by decide +kernel
theorem din_13 : decode prog_6_method_5_code 13 = .ok (.invokevirtual 52, 3) := by decide +kernel
theorem din_16 : decode prog_6_method_5_code 16 = .ok (.if_icmp .ge 75, 3) := by decide +kernel
theorem din_19 : decode prog_6_method_5_code 19 = .ok (.aload_n 0, 1) := by decide +kernel
theorem din_20 : decode prog_6_method_5_code 20 = .ok (.iload_n 1, 1) := by decide +kernel
theorem din_21 : decode prog_6_method_5_code 21 = .ok (.invokevirtual 56, 3) := by decide +kernel
theorem din_24 : decode prog_6_method_5_code 24 = .ok (.istore_n 2, 1) := by decide +kernel
theorem din_25 : decode prog_6_method_5_code 25 = .ok (.iload_n 2, 1) := by decide +kernel
theorem din_26 : decode prog_6_method_5_code 26 = .ok (.bipush 97, 2) := by decide +kernel
theorem din_28 : decode prog_6_method_5_code 28 = .ok (.if_icmp .lt 9, 3) := by decide +kernel
theorem din_31 : decode prog_6_method_5_code 31 = .ok (.iload_n 2, 1) := by decide +kernel
theorem din_32 : decode prog_6_method_5_code 32 = .ok (.bipush 122, 2) := by decide +kernel
theorem din_34 : decode prog_6_method_5_code 34 = .ok (.if_icmp .le 27, 3) := by decide +kernel
theorem din_37 : decode prog_6_method_5_code 37 = .ok (.iload_n 2, 1) := by decide +kernel
theorem din_38 : decode prog_6_method_5_code 38 = .ok (.bipush 65, 2) := by decide +kernel
theorem din_40 : decode prog_6_method_5_code 40 = .ok (.if_icmp .lt 9, 3) := by decide +kernel
theorem din_43 : decode prog_6_method_5_code 43 = .ok (.iload_n 2, 1) := by decide +kernel
theorem din_44 : decode prog_6_method_5_code 44 = .ok (.bipush 90, 2) := by decide +kernel
theorem din_46 : decode prog_6_method_5_code 46 = .ok (.if_icmp .le 15, 3) := by decide +kernel
theorem din_49 : decode prog_6_method_5_code 49 = .ok (.iload_n 2, 1) := by decide +kernel
theorem din_50 : decode prog_6_method_5_code 50 = .ok (.bipush 48, 2) := by decide +kernel
theorem din_52 : decode prog_6_method_5_code 52 = .ok (.if_icmp .lt 13, 3) := by decide +kernel
theorem din_55 : decode prog_6_method_5_code 55 = .ok (.iload_n 2, 1) := by decide +kernel
theorem din_56 : decode prog_6_method_5_code 56 = .ok (.bipush 57, 2) := by decide +kernel
theorem din_58 : decode prog_6_method_5_code 58 = .ok (.if_icmp .gt 7, 3) := by decide +kernel
theorem din_61 : decode prog_6_method_5_code 61 = .ok (.iconst 1, 1) := by decide +kernel
theorem din_62 : decode prog_6_method_5_code 62 = .ok (.goto 4, 3) := by decide +kernel
theorem din_65 : decode prog_6_method_5_code 65 = .ok (.iconst 0, 1) := by decide +kernel
theorem din_66 : decode prog_6_method_5_code 66 = .ok (.istore_n 3, 1) := by decide +kernel
theorem din_67 : decode prog_6_method_5_code 67 = .ok (.iload_n 3, 1) := by decide +kernel
theorem din_68 : decode prog_6_method_5_code 68 = .ok (.ifCond .ne 17, 3) := by decide +kernel
theorem din_71 : decode prog_6_method_5_code 71 = .ok (.iload_n 2, 1) := by decide +kernel
theorem din_72 : decode prog_6_method_5_code 72 = .ok (.bipush 95, 2) := by decide +kernel
theorem din_74 : decode prog_6_method_5_code 74 = .ok (.if_icmp .eq 11, 3) := by decide +kernel
theorem din_77 : decode prog_6_method_5_code 77 = .ok (.iload_n 2, 1) := by decide +kernel
theorem din_78 : decode prog_6_method_5_code 78 = .ok (.bipush 45, 2) := by decide +kernel
theorem din_80 : decode prog_6_method_5_code 80 = .ok (.if_icmp .eq 5, 3) := by decide +kernel
theorem din_83 : decode prog_6_method_5_code 83 = .ok (.iconst 0, 1) := by decide +kernel
theorem din_84 : decode prog_6_method_5_code 84 = .ok (.ireturn, 1) := by decide +kernel
theorem din_85 : decode prog_6_method_5_code 85 = .ok (.iinc 1 1, 3) := by decide +kernel
theorem din_88 : decode prog_6_method_5_code 88 = .ok (.goto (-77), 3) := by decide +kernel
theorem din_91 : decode prog_6_method_5_code 91 = .ok (.iconst 1, 1) := by decide +kernel
theorem din_92 : decode prog_6_method_5_code 92 = .ok (.ireturn, 1) := by decide +kernel
set_option maxRecDepth 65536 in
set_option maxHeartbeats 4000000 in
theorem m_dr (l : Launch) {Z : State} {a0 : Array Value} (hw : ∀ d ∈ tables_1, d.before a0 Z = true) {h : Heap} (hE : Ext Z.heap h) {x : Int32} :
    Con l (⟨"com/example/ermine/ermine/model/NotationIsNamePinLaw", "draw", "(I)C"⟩ : MethodName) method_2_code 1 (some .char) [] ({ frames := 0, cells := 0, slots := 0, locals := 0 } : Room) Z #[.int x] h (fun v h' => ∃ y, v = some (.int y) ∧ Ch y ∧ h' = h) := by
  refine con_intro (by first | exact plainFor_of_name pnLaw | decide +kernel) hE ?_
  intro p e s m below meth c T K hret hlk hnm
  have ef : entryFrame m #[.int x] 1 = (mkF m 0 #[.val (.int x)] []) := by first | (simp [entryFrame, mkF, argsToLocals, Value.category]; done) | rfl
  rw [ef]
  refine r_iloadN (pc' := 1) K ddr_0 rfl rfl ?_
  refine r_iconst (v := (1 : Int32)) (pc' := 2) K ddr_1 rfl (by decide) ?_
  refine r_iand (pc' := 3) K ddr_2 rfl ?_
  refine r_if (pc1 := 6) (pc2 := 14) K ddr_3 rfl (by decide) (by decide) ?_ ?_
  · intro (hc : (x &&& (1 : Int32)) = (0 : Int32))
    refine r_iloadN (pc' := 15) K ddr_14 rfl rfl ?_
    refine r_iconst (v := (1 : Int32)) (pc' := 16) K ddr_15 rfl (by decide) ?_
    refine r_iushr (pc' := 17) K ddr_16 rfl ?_
    refine r_ldcI (pc' := 19) K (hw _ (List.mem_of_getElem? (i := 5) rfl)) ddr_17 rfl ?_
    refine r_iand (pc' := 20) K ddr_19 rfl ?_
    refine r_i2c (pc' := 21) K ddr_20 rfl ?_
    exact r_retC K hret hlk (own_narC (own_i2c _)) ddr_21 (by decide) (by decide) ⟨_, rfl, own_i2c _, rfl⟩
  · intro (hc : ¬ (x &&& (1 : Int32)) = (0 : Int32))
    refine r_iloadN (pc' := 7) K ddr_6 rfl rfl ?_
    refine r_iconst (v := (1 : Int32)) (pc' := 8) K ddr_7 rfl (by decide) ?_
    refine r_iushr (pc' := 9) K ddr_8 rfl ?_
    refine r_bipush (v := (127 : Int32)) (pc' := 11) K ddr_9 rfl (by decide) ?_
    refine r_iand (pc' := 12) K ddr_11 rfl ?_
    refine r_i2c (pc' := 13) K ddr_12 rfl ?_
    exact r_retC K hret hlk (own_narC (own_i2c _)) ddr_13 (by decide) (by decide) ⟨_, rfl, own_i2c _, rfl⟩
def NC (x : Int32) : Prop := x = 45 ∨ x = 95 ∨ (¬ x < 48 ∧ ¬ 57 < x) ∨ (¬ x < 65 ∧ ¬ 90 < x) ∨ (¬ x < 97 ∧ ¬ 122 < x)
theorem own_nc0 {x : Int32} (a : ¬ x = 45) (b : ¬ x = 95) (c : x < 48 ∨ 57 < x) (d : x < 65 ∨ 90 < x) (e : x < 97 ∨ 122 < x) : ¬ NC x := by
  rintro (q | q | q | q | q)
  · exact a q
  · exact b q
  · exact c.elim q.1 q.2
  · exact d.elim q.1 q.2
  · exact e.elim q.1 q.2
set_option maxRecDepth 65536 in
set_option maxHeartbeats 4000000 in
theorem m_nc (l : Launch) {Z : State} {a0 : Array Value} (hw : ∀ d ∈ tables_1, d.before a0 Z = true) {h : Heap} (hE : Ext Z.heap h) {x : Int32} :
    Con l (⟨"com/example/ermine/ermine/model/NotationIsNamePinLaw", "nameChar", "(C)Z"⟩ : MethodName) method_3_code 1 (some .boolean) [] ({ frames := 0, cells := 0, slots := 0, locals := 0 } : Room) Z #[.int x] h (fun v h' => h' = h ∧ (v = some (.int 1) ∧ NC x ∨ v = some (.int 0) ∧ ¬ (NC x))) := by
  refine con_intro (by first | exact plainFor_of_name pnLaw | decide +kernel) hE ?_
  intro p e s m below meth c T K hret hlk hnm
  have ef : entryFrame m #[.int x] 1 = (mkF m 0 #[.val (.int x)] []) := by first | (simp [entryFrame, mkF, argsToLocals, Value.category]; done) | rfl
  rw [ef]
  refine r_iloadN (pc' := 1) K dnc_0 rfl rfl ?_
  refine r_bipush (v := (45 : Int32)) (pc' := 3) K dnc_1 rfl (by decide) ?_
  refine r_icmp (pc1 := 6) (pc2 := 12) K dnc_3 rfl (by decide) (by decide) ?_ ?_
  · intro (h45 : x = (45 : Int32))
    refine r_iconst (v := (1 : Int32)) (pc' := 13) K dnc_12 rfl (by decide) ?_
    exact r_retZ K hret hlk (by decide) dnc_13 (by decide) (by decide) ⟨rfl, Or.inl ⟨rfl, Or.inl h45⟩⟩
  · intro (h45 : ¬ x = (45 : Int32))
    refine r_iloadN (pc' := 7) K dnc_6 rfl rfl ?_
    refine r_bipush (v := (95 : Int32)) (pc' := 9) K dnc_7 rfl (by decide) ?_
    refine r_icmp (pc1 := 12) (pc2 := 14) K dnc_9 rfl (by decide) (by decide) ?_ ?_
    · intro (h95 : ¬ x = (95 : Int32))
      refine r_bipush (v := (48 : Int32)) (pc' := 16) K dnc_14 rfl (by decide) ?_
      refine r_iloadN (pc' := 17) K dnc_16 rfl rfl ?_
      refine r_icmp (pc1 := 20) (pc2 := 28) K dnc_17 rfl (by decide) (by decide) ?_ ?_
      · intro (h48 : x < (48 : Int32))
        refine r_bipush (v := (65 : Int32)) (pc' := 30) K dnc_28 rfl (by decide) ?_
        refine r_iloadN (pc' := 31) K dnc_30 rfl rfl ?_
        refine r_icmp (pc1 := 34) (pc2 := 42) K dnc_31 rfl (by decide) (by decide) ?_ ?_
        · intro (h65 : x < (65 : Int32))
          refine r_bipush (v := (97 : Int32)) (pc' := 44) K dnc_42 rfl (by decide) ?_
          refine r_iloadN (pc' := 45) K dnc_44 rfl rfl ?_
          refine r_icmp (pc1 := 48) (pc2 := 58) K dnc_45 rfl (by decide) (by decide) ?_ ?_
          · intro (h97 : x < (97 : Int32))
            refine r_iconst (v := (0 : Int32)) (pc' := 59) K dnc_58 rfl (by decide) ?_
            exact r_retZ K hret hlk (by decide) dnc_59 (by decide) (by decide) ⟨rfl, Or.inr ⟨rfl, own_nc0 h45 h95 (Or.inl h48) (Or.inl h65) (Or.inl h97)⟩⟩
          · intro (h97 : ¬ x < (97 : Int32))
            refine r_iloadN (pc' := 49) K dnc_48 rfl rfl ?_
            refine r_bipush (v := (122 : Int32)) (pc' := 51) K dnc_49 rfl (by decide) ?_
            refine r_icmp (pc1 := 54) (pc2 := 58) K dnc_51 rfl (by decide) (by decide) ?_ ?_
            · intro (h122 : (122 : Int32) < x)
              refine r_iconst (v := (0 : Int32)) (pc' := 59) K dnc_58 rfl (by decide) ?_
              exact r_retZ K hret hlk (by decide) dnc_59 (by decide) (by decide) ⟨rfl, Or.inr ⟨rfl, own_nc0 h45 h95 (Or.inl h48) (Or.inl h65) (Or.inr h122)⟩⟩
            · intro (h122 : ¬ (122 : Int32) < x)
              refine r_iconst (v := (1 : Int32)) (pc' := 55) K dnc_54 rfl (by decide) ?_
              refine r_goto (pc' := 59) K dnc_55 (by decide) (by decide) ?_
              exact r_retZ K hret hlk (by decide) dnc_59 (by decide) (by decide) ⟨rfl, Or.inl ⟨rfl, Or.inr (Or.inr (Or.inr (Or.inr ⟨h97, h122⟩)))⟩⟩
        · intro (h65 : ¬ x < (65 : Int32))
          refine r_iloadN (pc' := 35) K dnc_34 rfl rfl ?_
          refine r_bipush (v := (90 : Int32)) (pc' := 37) K dnc_35 rfl (by decide) ?_
          refine r_icmp (pc1 := 40) (pc2 := 42) K dnc_37 rfl (by decide) (by decide) ?_ ?_
          · intro (h90 : (90 : Int32) < x)
            refine r_bipush (v := (97 : Int32)) (pc' := 44) K dnc_42 rfl (by decide) ?_
            refine r_iloadN (pc' := 45) K dnc_44 rfl rfl ?_
            refine r_icmp (pc1 := 48) (pc2 := 58) K dnc_45 rfl (by decide) (by decide) ?_ ?_
            · intro (h97 : x < (97 : Int32))
              refine r_iconst (v := (0 : Int32)) (pc' := 59) K dnc_58 rfl (by decide) ?_
              exact r_retZ K hret hlk (by decide) dnc_59 (by decide) (by decide) ⟨rfl, Or.inr ⟨rfl, own_nc0 h45 h95 (Or.inl h48) (Or.inr h90) (Or.inl h97)⟩⟩
            · intro (h97 : ¬ x < (97 : Int32))
              refine r_iloadN (pc' := 49) K dnc_48 rfl rfl ?_
              refine r_bipush (v := (122 : Int32)) (pc' := 51) K dnc_49 rfl (by decide) ?_
              refine r_icmp (pc1 := 54) (pc2 := 58) K dnc_51 rfl (by decide) (by decide) ?_ ?_
              · intro (h122 : (122 : Int32) < x)
                refine r_iconst (v := (0 : Int32)) (pc' := 59) K dnc_58 rfl (by decide) ?_
                exact r_retZ K hret hlk (by decide) dnc_59 (by decide) (by decide) ⟨rfl, Or.inr ⟨rfl, own_nc0 h45 h95 (Or.inl h48) (Or.inr h90) (Or.inr h122)⟩⟩
              · intro (h122 : ¬ (122 : Int32) < x)
                refine r_iconst (v := (1 : Int32)) (pc' := 55) K dnc_54 rfl (by decide) ?_
                refine r_goto (pc' := 59) K dnc_55 (by decide) (by decide) ?_
                exact r_retZ K hret hlk (by decide) dnc_59 (by decide) (by decide) ⟨rfl, Or.inl ⟨rfl, Or.inr (Or.inr (Or.inr (Or.inr ⟨h97, h122⟩)))⟩⟩
          · intro (h90 : ¬ (90 : Int32) < x)
            refine r_iconst (v := (1 : Int32)) (pc' := 41) K dnc_40 rfl (by decide) ?_
            exact r_retZ K hret hlk (by decide) dnc_41 (by decide) (by decide) ⟨rfl, Or.inl ⟨rfl, Or.inr (Or.inr (Or.inr (Or.inl ⟨h65, h90⟩)))⟩⟩
      · intro (h48 : ¬ x < (48 : Int32))
        refine r_iloadN (pc' := 21) K dnc_20 rfl rfl ?_
        refine r_bipush (v := (57 : Int32)) (pc' := 23) K dnc_21 rfl (by decide) ?_
        refine r_icmp (pc1 := 26) (pc2 := 28) K dnc_23 rfl (by decide) (by decide) ?_ ?_
        · intro (h57 : (57 : Int32) < x)
          refine r_bipush (v := (65 : Int32)) (pc' := 30) K dnc_28 rfl (by decide) ?_
          refine r_iloadN (pc' := 31) K dnc_30 rfl rfl ?_
          refine r_icmp (pc1 := 34) (pc2 := 42) K dnc_31 rfl (by decide) (by decide) ?_ ?_
          · intro (h65 : x < (65 : Int32))
            refine r_bipush (v := (97 : Int32)) (pc' := 44) K dnc_42 rfl (by decide) ?_
            refine r_iloadN (pc' := 45) K dnc_44 rfl rfl ?_
            refine r_icmp (pc1 := 48) (pc2 := 58) K dnc_45 rfl (by decide) (by decide) ?_ ?_
            · intro (h97 : x < (97 : Int32))
              refine r_iconst (v := (0 : Int32)) (pc' := 59) K dnc_58 rfl (by decide) ?_
              exact r_retZ K hret hlk (by decide) dnc_59 (by decide) (by decide) ⟨rfl, Or.inr ⟨rfl, own_nc0 h45 h95 (Or.inr h57) (Or.inl h65) (Or.inl h97)⟩⟩
            · intro (h97 : ¬ x < (97 : Int32))
              refine r_iloadN (pc' := 49) K dnc_48 rfl rfl ?_
              refine r_bipush (v := (122 : Int32)) (pc' := 51) K dnc_49 rfl (by decide) ?_
              refine r_icmp (pc1 := 54) (pc2 := 58) K dnc_51 rfl (by decide) (by decide) ?_ ?_
              · intro (h122 : (122 : Int32) < x)
                refine r_iconst (v := (0 : Int32)) (pc' := 59) K dnc_58 rfl (by decide) ?_
                exact r_retZ K hret hlk (by decide) dnc_59 (by decide) (by decide) ⟨rfl, Or.inr ⟨rfl, own_nc0 h45 h95 (Or.inr h57) (Or.inl h65) (Or.inr h122)⟩⟩
              · intro (h122 : ¬ (122 : Int32) < x)
                refine r_iconst (v := (1 : Int32)) (pc' := 55) K dnc_54 rfl (by decide) ?_
                refine r_goto (pc' := 59) K dnc_55 (by decide) (by decide) ?_
                exact r_retZ K hret hlk (by decide) dnc_59 (by decide) (by decide) ⟨rfl, Or.inl ⟨rfl, Or.inr (Or.inr (Or.inr (Or.inr ⟨h97, h122⟩)))⟩⟩
          · intro (h65 : ¬ x < (65 : Int32))
            refine r_iloadN (pc' := 35) K dnc_34 rfl rfl ?_
            refine r_bipush (v := (90 : Int32)) (pc' := 37) K dnc_35 rfl (by decide) ?_
            refine r_icmp (pc1 := 40) (pc2 := 42) K dnc_37 rfl (by decide) (by decide) ?_ ?_
            · intro (h90 : (90 : Int32) < x)
              refine r_bipush (v := (97 : Int32)) (pc' := 44) K dnc_42 rfl (by decide) ?_
              refine r_iloadN (pc' := 45) K dnc_44 rfl rfl ?_
              refine r_icmp (pc1 := 48) (pc2 := 58) K dnc_45 rfl (by decide) (by decide) ?_ ?_
              · intro (h97 : x < (97 : Int32))
                refine r_iconst (v := (0 : Int32)) (pc' := 59) K dnc_58 rfl (by decide) ?_
                exact r_retZ K hret hlk (by decide) dnc_59 (by decide) (by decide) ⟨rfl, Or.inr ⟨rfl, own_nc0 h45 h95 (Or.inr h57) (Or.inr h90) (Or.inl h97)⟩⟩
              · intro (h97 : ¬ x < (97 : Int32))
                refine r_iloadN (pc' := 49) K dnc_48 rfl rfl ?_
                refine r_bipush (v := (122 : Int32)) (pc' := 51) K dnc_49 rfl (by decide) ?_
                refine r_icmp (pc1 := 54) (pc2 := 58) K dnc_51 rfl (by decide) (by decide) ?_ ?_
                · intro (h122 : (122 : Int32) < x)
                  refine r_iconst (v := (0 : Int32)) (pc' := 59) K dnc_58 rfl (by decide) ?_
                  exact r_retZ K hret hlk (by decide) dnc_59 (by decide) (by decide) ⟨rfl, Or.inr ⟨rfl, own_nc0 h45 h95 (Or.inr h57) (Or.inr h90) (Or.inr h122)⟩⟩
                · intro (h122 : ¬ (122 : Int32) < x)
                  refine r_iconst (v := (1 : Int32)) (pc' := 55) K dnc_54 rfl (by decide) ?_
                  refine r_goto (pc' := 59) K dnc_55 (by decide) (by decide) ?_
                  exact r_retZ K hret hlk (by decide) dnc_59 (by decide) (by decide) ⟨rfl, Or.inl ⟨rfl, Or.inr (Or.inr (Or.inr (Or.inr ⟨h97, h122⟩)))⟩⟩
            · intro (h90 : ¬ (90 : Int32) < x)
              refine r_iconst (v := (1 : Int32)) (pc' := 41) K dnc_40 rfl (by decide) ?_
              exact r_retZ K hret hlk (by decide) dnc_41 (by decide) (by decide) ⟨rfl, Or.inl ⟨rfl, Or.inr (Or.inr (Or.inr (Or.inl ⟨h65, h90⟩)))⟩⟩
        · intro (h57 : ¬ (57 : Int32) < x)
          refine r_iconst (v := (1 : Int32)) (pc' := 27) K dnc_26 rfl (by decide) ?_
          exact r_retZ K hret hlk (by decide) dnc_27 (by decide) (by decide) ⟨rfl, Or.inl ⟨rfl, Or.inr (Or.inr (Or.inl ⟨h48, h57⟩))⟩⟩
    · intro (h95 : x = (95 : Int32))
      refine r_iconst (v := (1 : Int32)) (pc' := 13) K dnc_12 rfl (by decide) ?_
      exact r_retZ K hret hlk (by decide) dnc_13 (by decide) (by decide) ⟨rfl, Or.inl ⟨rfl, Or.inr (Or.inl h95)⟩⟩
def MK (ln c0 c1 c2 c3 : Int32) : List Int32 := if ln = 0 then [] else if ln = 1 then [c0] else if ln = 2 then [c0, c1] else if ln = 3 then [c0, c1, c2] else [c0, c1, c2, c3]
theorem MK.len (ln c0 c1 c2 c3 : Int32) : (MK ln c0 c1 c2 c3).length ≤ 4 := by
  unfold MK
  repeat' split
  all_goals simp
set_option maxRecDepth 65536 in
set_option maxHeartbeats 4000000 in
theorem m_mk (l : Launch) {Z : State} {a0 : Array Value} (hw : ∀ d ∈ tables_1, d.before a0 Z = true) {h : Heap} (hE : Ext Z.heap h) {ln c0 c1 c2 c3 : Int32} (hq0 : Ch c0) (hq1 : Ch c1) (hq2 : Ch c2) (hq3 : Ch c3) :
    Con l (⟨"com/example/ermine/ermine/model/NotationIsNamePinLaw", "make", "(ICCCC)[C"⟩ : MethodName) method_4_code 5 (some (.array .char)) [] ({ frames := 0, cells := 1, slots := 4, locals := 0 } : Room) Z #[.int ln, .int c0, .int c1, .int c2, .int c3] h (fun v h' => ∃ d k, v = some (.ref d) ∧ h.size ≤ d ∧ Ext h h' ∧ Arv Z h' d k .char (Int32.ofNat (MK ln c0 c1 c2 c3).length) ((MK ln c0 c1 c2 c3).map Value.int) (.int 0)) := by
  refine con_intro (by first | exact plainFor_of_name pnLaw | decide +kernel) hE ?_
  intro p e s m below meth c T K hret hlk hnm
  have ef : entryFrame m #[.int ln, .int c0, .int c1, .int c2, .int c3] 5 = (mkF m 0 #[.val (.int ln), .val (.int c0), .val (.int c1), .val (.int c2), .val (.int c3)] []) := by first | (simp [entryFrame, mkF, argsToLocals, Value.category]; done) | rfl
  rw [ef]
  refine r_iloadN (pc' := 1) K dmk_0 rfl rfl ?_
  refine r_if (pc1 := 4) (pc2 := 8) K dmk_1 rfl (by decide) (by decide) ?_ ?_
  · intro (q0 : ¬ ln = (0 : Int32))
    refine r_iloadN (pc' := 9) K dmk_8 rfl rfl ?_
    refine r_iconst (v := (1 : Int32)) (pc' := 10) K dmk_9 rfl (by decide) ?_
    refine r_icmp (pc1 := 13) (pc2 := 21) K dmk_10 rfl (by decide) (by decide) ?_ ?_
    · intro (q1 : ¬ ln = (1 : Int32))
      refine r_iloadN (pc' := 22) K dmk_21 rfl rfl ?_
      refine r_iconst (v := (2 : Int32)) (pc' := 23) K dmk_22 rfl (by decide) ?_
      refine r_icmp (pc1 := 26) (pc2 := 38) K dmk_23 rfl (by decide) (by decide) ?_ ?_
      · intro (q2 : ¬ ln = (2 : Int32))
        refine r_iloadN (pc' := 39) K dmk_38 rfl rfl ?_
        refine r_iconst (v := (3 : Int32)) (pc' := 40) K dmk_39 rfl (by decide) ?_
        refine r_icmp (pc1 := 43) (pc2 := 59) K dmk_40 rfl (by decide) (by decide) ?_ ?_
        · intro (q3 : ¬ ln = (3 : Int32))
          refine r_iconst (v := (4 : Int32)) (pc' := 60) K dmk_59 rfl (by decide) ?_
          refine r_newarr (pc' := 62) (cap := 4) K (hw _ (List.mem_of_getElem? (i := 12) rfl)) dmk_60 rfl (by decide) (by decide) (by decide) (by decide) (by decide) ?_
          intro T1 hh1 d kd hd K1 E1 A1
          have hdd : h.size ≤ d := Nat.le_of_eq hd.symm
          have gd : Z.heap.size ≤ d := by rw [hd]; exact K.sz
          have A1' := A1.pad (vs' := [.int 0, .int 0, .int 0, .int 0]) (pad_rep [] (.int 0) 4)
          refine r_dup (pc' := 63) K1 dmk_62 rfl rfl ?_
          refine r_iconst (v := (0 : Int32)) (pc' := 64) K1 dmk_63 rfl (by decide) ?_
          refine r_iloadN (pc' := 65) K1 dmk_64 rfl rfl ?_
          refine r_castore (pc' := 66) (i := 0) K1 A1' gd (by decide) (by decide) (by simp) dmk_65 rfl ?_
          intro T2 h2 K2 W2 A2
          have X2 := ext_keep E1 (Keep.of_wr W2) (allS hdd all0)
          refine r_dup (pc' := 67) K2 dmk_66 rfl rfl ?_
          refine r_iconst (v := (1 : Int32)) (pc' := 68) K2 dmk_67 rfl (by decide) ?_
          refine r_iloadN (pc' := 69) K2 dmk_68 rfl rfl ?_
          refine r_castore (pc' := 70) (i := 1) K2 A2 gd (by decide) (by decide) (by simp) dmk_69 rfl ?_
          intro T3 h3 K3 W3 A3
          have X3 := ext_keep X2 (Keep.of_wr W3) (allS hdd all0)
          refine r_dup (pc' := 71) K3 dmk_70 rfl rfl ?_
          refine r_iconst (v := (2 : Int32)) (pc' := 72) K3 dmk_71 rfl (by decide) ?_
          refine r_iloadN (pc' := 73) K3 dmk_72 rfl rfl ?_
          refine r_castore (pc' := 74) (i := 2) K3 A3 gd (by decide) (by decide) (by simp) dmk_73 rfl ?_
          intro T4 h4 K4 W4 A4
          have X4 := ext_keep X3 (Keep.of_wr W4) (allS hdd all0)
          refine r_dup (pc' := 75) K4 dmk_74 rfl rfl ?_
          refine r_iconst (v := (3 : Int32)) (pc' := 76) K4 dmk_75 rfl (by decide) ?_
          refine r_iload (pc' := 78) K4 dmk_76 rfl rfl ?_
          refine r_castore (pc' := 79) (i := 3) K4 A4 gd (by decide) (by decide) (by simp) dmk_78 rfl ?_
          intro T5 h5 K5 W5 A5
          have X5 := ext_keep X4 (Keep.of_wr W5) (allS hdd all0)
          rw [own_nar hq0, own_nar hq1, own_nar hq2, own_nar hq3] at A5
          have hm : MK ln c0 c1 c2 c3 = [c0, c1, c2, c3] := by simp [MK, q0, q1, q2, q3]
          exact r_retA K5 hret hlk rfl rfl dmk_79 (by decide) (by decide) ⟨d, kd, rfl, hdd, X5, by rw [hm]; exact A5⟩
        · intro (q3 : ln = (3 : Int32))
          refine r_iconst (v := (3 : Int32)) (pc' := 44) K dmk_43 rfl (by decide) ?_
          refine r_newarr (pc' := 46) (cap := 4) K (hw _ (List.mem_of_getElem? (i := 12) rfl)) dmk_44 rfl (by decide) (by decide) (by decide) (by decide) (by decide) ?_
          intro T1 hh1 d kd hd K1 E1 A1
          have hdd : h.size ≤ d := Nat.le_of_eq hd.symm
          have gd : Z.heap.size ≤ d := by rw [hd]; exact K.sz
          have A1' := A1.pad (vs' := [.int 0, .int 0, .int 0]) (pad_rep [] (.int 0) 3)
          refine r_dup (pc' := 47) K1 dmk_46 rfl rfl ?_
          refine r_iconst (v := (0 : Int32)) (pc' := 48) K1 dmk_47 rfl (by decide) ?_
          refine r_iloadN (pc' := 49) K1 dmk_48 rfl rfl ?_
          refine r_castore (pc' := 50) (i := 0) K1 A1' gd (by decide) (by decide) (by simp) dmk_49 rfl ?_
          intro T2 h2 K2 W2 A2
          have X2 := ext_keep E1 (Keep.of_wr W2) (allS hdd all0)
          refine r_dup (pc' := 51) K2 dmk_50 rfl rfl ?_
          refine r_iconst (v := (1 : Int32)) (pc' := 52) K2 dmk_51 rfl (by decide) ?_
          refine r_iloadN (pc' := 53) K2 dmk_52 rfl rfl ?_
          refine r_castore (pc' := 54) (i := 1) K2 A2 gd (by decide) (by decide) (by simp) dmk_53 rfl ?_
          intro T3 h3 K3 W3 A3
          have X3 := ext_keep X2 (Keep.of_wr W3) (allS hdd all0)
          refine r_dup (pc' := 55) K3 dmk_54 rfl rfl ?_
          refine r_iconst (v := (2 : Int32)) (pc' := 56) K3 dmk_55 rfl (by decide) ?_
          refine r_iloadN (pc' := 57) K3 dmk_56 rfl rfl ?_
          refine r_castore (pc' := 58) (i := 2) K3 A3 gd (by decide) (by decide) (by simp) dmk_57 rfl ?_
          intro T4 h4 K4 W4 A4
          have X4 := ext_keep X3 (Keep.of_wr W4) (allS hdd all0)
          rw [own_nar hq0, own_nar hq1, own_nar hq2] at A4
          have hm : MK ln c0 c1 c2 c3 = [c0, c1, c2] := by simp [MK, q3]
          exact r_retA K4 hret hlk rfl rfl dmk_58 (by decide) (by decide) ⟨d, kd, rfl, hdd, X4, by rw [hm]; exact A4⟩
      · intro (q2 : ln = (2 : Int32))
        refine r_iconst (v := (2 : Int32)) (pc' := 27) K dmk_26 rfl (by decide) ?_
        refine r_newarr (pc' := 29) (cap := 4) K (hw _ (List.mem_of_getElem? (i := 12) rfl)) dmk_27 rfl (by decide) (by decide) (by decide) (by decide) (by decide) ?_
        intro T1 hh1 d kd hd K1 E1 A1
        have hdd : h.size ≤ d := Nat.le_of_eq hd.symm
        have gd : Z.heap.size ≤ d := by rw [hd]; exact K.sz
        have A1' := A1.pad (vs' := [.int 0, .int 0]) (pad_rep [] (.int 0) 2)
        refine r_dup (pc' := 30) K1 dmk_29 rfl rfl ?_
        refine r_iconst (v := (0 : Int32)) (pc' := 31) K1 dmk_30 rfl (by decide) ?_
        refine r_iloadN (pc' := 32) K1 dmk_31 rfl rfl ?_
        refine r_castore (pc' := 33) (i := 0) K1 A1' gd (by decide) (by decide) (by simp) dmk_32 rfl ?_
        intro T2 h2 K2 W2 A2
        have X2 := ext_keep E1 (Keep.of_wr W2) (allS hdd all0)
        refine r_dup (pc' := 34) K2 dmk_33 rfl rfl ?_
        refine r_iconst (v := (1 : Int32)) (pc' := 35) K2 dmk_34 rfl (by decide) ?_
        refine r_iloadN (pc' := 36) K2 dmk_35 rfl rfl ?_
        refine r_castore (pc' := 37) (i := 1) K2 A2 gd (by decide) (by decide) (by simp) dmk_36 rfl ?_
        intro T3 h3 K3 W3 A3
        have X3 := ext_keep X2 (Keep.of_wr W3) (allS hdd all0)
        rw [own_nar hq0, own_nar hq1] at A3
        have hm : MK ln c0 c1 c2 c3 = [c0, c1] := by simp [MK, q2]
        exact r_retA K3 hret hlk rfl rfl dmk_37 (by decide) (by decide) ⟨d, kd, rfl, hdd, X3, by rw [hm]; exact A3⟩
    · intro (q1 : ln = (1 : Int32))
      refine r_iconst (v := (1 : Int32)) (pc' := 14) K dmk_13 rfl (by decide) ?_
      refine r_newarr (pc' := 16) (cap := 4) K (hw _ (List.mem_of_getElem? (i := 12) rfl)) dmk_14 rfl (by decide) (by decide) (by decide) (by decide) (by decide) ?_
      intro T1 hh1 d kd hd K1 E1 A1
      have hdd : h.size ≤ d := Nat.le_of_eq hd.symm
      have gd : Z.heap.size ≤ d := by rw [hd]; exact K.sz
      have A1' := A1.pad (vs' := [.int 0]) (pad_rep [] (.int 0) 1)
      refine r_dup (pc' := 17) K1 dmk_16 rfl rfl ?_
      refine r_iconst (v := (0 : Int32)) (pc' := 18) K1 dmk_17 rfl (by decide) ?_
      refine r_iloadN (pc' := 19) K1 dmk_18 rfl rfl ?_
      refine r_castore (pc' := 20) (i := 0) K1 A1' gd (by decide) (by decide) (by simp) dmk_19 rfl ?_
      intro T2 h2 K2 W2 A2
      have X2 := ext_keep E1 (Keep.of_wr W2) (allS hdd all0)
      rw [own_nar hq0] at A2
      have hm : MK ln c0 c1 c2 c3 = [c0] := by simp [MK, q1]
      exact r_retA K2 hret hlk rfl rfl dmk_20 (by decide) (by decide) ⟨d, kd, rfl, hdd, X2, by rw [hm]; exact A2⟩
  · intro (q0 : ln = (0 : Int32))
    refine r_iconst (v := (0 : Int32)) (pc' := 5) K dmk_4 rfl (by decide) ?_
    refine r_newarr (pc' := 7) (cap := 4) K (hw _ (List.mem_of_getElem? (i := 12) rfl)) dmk_5 rfl (by decide) (by decide) (by decide) (by decide) (by decide) ?_
    intro T1 hh1 d kd hd K1 E1 A1
    have hdd : h.size ≤ d := Nat.le_of_eq hd.symm
    have hm : MK ln c0 c1 c2 c3 = [] := by simp [MK, q0]
    exact r_retA K1 hret hlk rfl rfl dmk_7 (by decide) (by decide) ⟨d, kd, rfl, hdd, E1, by rw [hm]; exact A1⟩
theorem own_i2 {z0 z1 : Value} {s2 s3 : Slot} {v : Int32} (h : Jvm.RoadKit.One s2) : storeLocals #[.val z0, .val z1, s2, s3] 2 (.int v) = some #[.val z0, .val z1, .val (.int v), s3] := by
  rcases h with rfl | ⟨w, rfl, hw⟩
  · rfl
  · cases w <;> first | rfl | (simp [Value.category] at hw)
theorem own_i3 {z0 z1 z2 : Value} {s3 : Slot} {v : Int32} (h : Jvm.RoadKit.One s3) : storeLocals #[.val z0, .val z1, .val z2, s3] 3 (.int v) = some #[.val z0, .val z1, .val z2, .val (.int v)] := by
  rcases h with rfl | ⟨w, rfl, hw⟩
  · rfl
  · cases w <;> first | rfl | (simp [Value.category] at hw)
section Ls
variable {Z : State} {a0 : Array Value} {p : Program} {l : Launch} {e : Env} {R : Room} {s : State} {m : MethodId} {args : Array Value} {below : List Frame} {meth : Method} {c : Code} {T : State} {h : Heap} {cells slots : Nat} {P : State → Prop}
set_option maxRecDepth 65536 in
set_option maxHeartbeats 4000000 in
theorem n_seg (K : St Z "com/example/ermine/ermine/model/Notation" prog_6_method_5_code 4 p l e R s m args below meth c T h cells slots) {a : Addr} {i x : Int32} {s3 : Slot} (hs3 : Jvm.RoadKit.One s3) (hy : ∀ s3' : Int32, NC x → Run p e below P T (mkF m 85 #[.val (.ref a), .val (.int i), .val (.int x), .val (.int s3')] [])) (hn : ∀ s3' : Int32, ¬ NC x → Run p e below P T (mkF m 83 #[.val (.ref a), .val (.int i), .val (.int x), .val (.int s3')] [])) : Run p e below P T (mkF m 25 #[.val (.ref a), .val (.int i), .val (.int x), s3] []) := by
  refine r_iloadN (pc' := 26) K din_25 rfl rfl ?_
  refine r_bipush (v := (97 : Int32)) (pc' := 28) K din_26 rfl (by decide) ?_
  refine r_icmp (pc1 := 31) (pc2 := 37) K din_28 rfl (by decide) (by decide) ?_ ?_
  · intro (h97 : x < (97 : Int32))
    refine r_iloadN (pc' := 38) K din_37 rfl rfl ?_
    refine r_bipush (v := (65 : Int32)) (pc' := 40) K din_38 rfl (by decide) ?_
    refine r_icmp (pc1 := 43) (pc2 := 49) K din_40 rfl (by decide) (by decide) ?_ ?_
    · intro (h65 : x < (65 : Int32))
      refine r_iloadN (pc' := 50) K din_49 rfl rfl ?_
      refine r_bipush (v := (48 : Int32)) (pc' := 52) K din_50 rfl (by decide) ?_
      refine r_icmp (pc1 := 55) (pc2 := 65) K din_52 rfl (by decide) (by decide) ?_ ?_
      · intro (h48 : x < (48 : Int32))
        refine r_iconst (v := (0 : Int32)) (pc' := 66) K din_65 rfl (by decide) ?_
        refine r_istoreN (Ls' := #[.val (.ref a), .val (.int i), .val (.int x), .val (.int (0 : Int32))]) (pc' := 67) K din_66 rfl (own_i3 hs3) ?_
        refine r_iloadN (pc' := 68) K din_67 rfl rfl ?_
        refine r_if (pc1 := 71) (pc2 := 85) K din_68 rfl (by decide) (by decide) ?_ ?_
        · intro (hz : ¬ (0 : Int32) = (0 : Int32))
          exact absurd rfl hz
        · intro (hz : (0 : Int32) = (0 : Int32))
          refine r_iloadN (pc' := 72) K din_71 rfl rfl ?_
          refine r_bipush (v := (95 : Int32)) (pc' := 74) K din_72 rfl (by decide) ?_
          refine r_icmp (pc1 := 77) (pc2 := 85) K din_74 rfl (by decide) (by decide) ?_ ?_
          · intro (h95 : x = (95 : Int32))
            exact hy _ (Or.inr (Or.inl h95))
          · intro (h95 : ¬ x = (95 : Int32))
            refine r_iloadN (pc' := 78) K din_77 rfl rfl ?_
            refine r_bipush (v := (45 : Int32)) (pc' := 80) K din_78 rfl (by decide) ?_
            refine r_icmp (pc1 := 83) (pc2 := 85) K din_80 rfl (by decide) (by decide) ?_ ?_
            · intro (h45 : x = (45 : Int32))
              exact hy _ (Or.inl h45)
            · intro (h45 : ¬ x = (45 : Int32))
              exact hn _ (own_nc0 h45 h95 (Or.inl h48) (Or.inl h65) (Or.inl h97))
      · intro (h48 : ¬ x < (48 : Int32))
        refine r_iloadN (pc' := 56) K din_55 rfl rfl ?_
        refine r_bipush (v := (57 : Int32)) (pc' := 58) K din_56 rfl (by decide) ?_
        refine r_icmp (pc1 := 61) (pc2 := 65) K din_58 rfl (by decide) (by decide) ?_ ?_
        · intro (h57 : (57 : Int32) < x)
          refine r_iconst (v := (0 : Int32)) (pc' := 66) K din_65 rfl (by decide) ?_
          refine r_istoreN (Ls' := #[.val (.ref a), .val (.int i), .val (.int x), .val (.int (0 : Int32))]) (pc' := 67) K din_66 rfl (own_i3 hs3) ?_
          refine r_iloadN (pc' := 68) K din_67 rfl rfl ?_
          refine r_if (pc1 := 71) (pc2 := 85) K din_68 rfl (by decide) (by decide) ?_ ?_
          · intro (hz : ¬ (0 : Int32) = (0 : Int32))
            exact absurd rfl hz
          · intro (hz : (0 : Int32) = (0 : Int32))
            refine r_iloadN (pc' := 72) K din_71 rfl rfl ?_
            refine r_bipush (v := (95 : Int32)) (pc' := 74) K din_72 rfl (by decide) ?_
            refine r_icmp (pc1 := 77) (pc2 := 85) K din_74 rfl (by decide) (by decide) ?_ ?_
            · intro (h95 : x = (95 : Int32))
              exact hy _ (Or.inr (Or.inl h95))
            · intro (h95 : ¬ x = (95 : Int32))
              refine r_iloadN (pc' := 78) K din_77 rfl rfl ?_
              refine r_bipush (v := (45 : Int32)) (pc' := 80) K din_78 rfl (by decide) ?_
              refine r_icmp (pc1 := 83) (pc2 := 85) K din_80 rfl (by decide) (by decide) ?_ ?_
              · intro (h45 : x = (45 : Int32))
                exact hy _ (Or.inl h45)
              · intro (h45 : ¬ x = (45 : Int32))
                exact hn _ (own_nc0 h45 h95 (Or.inr h57) (Or.inl h65) (Or.inl h97))
        · intro (h57 : ¬ (57 : Int32) < x)
          refine r_iconst (v := (1 : Int32)) (pc' := 62) K din_61 rfl (by decide) ?_
          refine r_goto (pc' := 66) K din_62 (by decide) (by decide) ?_
          refine r_istoreN (Ls' := #[.val (.ref a), .val (.int i), .val (.int x), .val (.int (1 : Int32))]) (pc' := 67) K din_66 rfl (own_i3 hs3) ?_
          refine r_iloadN (pc' := 68) K din_67 rfl rfl ?_
          refine r_if (pc1 := 71) (pc2 := 85) K din_68 rfl (by decide) (by decide) ?_ ?_
          · intro (hz : ¬ (1 : Int32) = (0 : Int32))
            exact hy _ (Or.inr (Or.inr (Or.inl ⟨h48, h57⟩)))
          · intro (hz : (1 : Int32) = (0 : Int32))
            exact absurd hz (by decide)
    · intro (h65 : ¬ x < (65 : Int32))
      refine r_iloadN (pc' := 44) K din_43 rfl rfl ?_
      refine r_bipush (v := (90 : Int32)) (pc' := 46) K din_44 rfl (by decide) ?_
      refine r_icmp (pc1 := 49) (pc2 := 61) K din_46 rfl (by decide) (by decide) ?_ ?_
      · intro (h90 : ¬ (90 : Int32) < x)
        refine r_iconst (v := (1 : Int32)) (pc' := 62) K din_61 rfl (by decide) ?_
        refine r_goto (pc' := 66) K din_62 (by decide) (by decide) ?_
        refine r_istoreN (Ls' := #[.val (.ref a), .val (.int i), .val (.int x), .val (.int (1 : Int32))]) (pc' := 67) K din_66 rfl (own_i3 hs3) ?_
        refine r_iloadN (pc' := 68) K din_67 rfl rfl ?_
        refine r_if (pc1 := 71) (pc2 := 85) K din_68 rfl (by decide) (by decide) ?_ ?_
        · intro (hz : ¬ (1 : Int32) = (0 : Int32))
          exact hy _ (Or.inr (Or.inr (Or.inr (Or.inl ⟨h65, h90⟩))))
        · intro (hz : (1 : Int32) = (0 : Int32))
          exact absurd hz (by decide)
      · intro (h90 : (90 : Int32) < x)
        refine r_iloadN (pc' := 50) K din_49 rfl rfl ?_
        refine r_bipush (v := (48 : Int32)) (pc' := 52) K din_50 rfl (by decide) ?_
        refine r_icmp (pc1 := 55) (pc2 := 65) K din_52 rfl (by decide) (by decide) ?_ ?_
        · intro (h48 : x < (48 : Int32))
          refine r_iconst (v := (0 : Int32)) (pc' := 66) K din_65 rfl (by decide) ?_
          refine r_istoreN (Ls' := #[.val (.ref a), .val (.int i), .val (.int x), .val (.int (0 : Int32))]) (pc' := 67) K din_66 rfl (own_i3 hs3) ?_
          refine r_iloadN (pc' := 68) K din_67 rfl rfl ?_
          refine r_if (pc1 := 71) (pc2 := 85) K din_68 rfl (by decide) (by decide) ?_ ?_
          · intro (hz : ¬ (0 : Int32) = (0 : Int32))
            exact absurd rfl hz
          · intro (hz : (0 : Int32) = (0 : Int32))
            refine r_iloadN (pc' := 72) K din_71 rfl rfl ?_
            refine r_bipush (v := (95 : Int32)) (pc' := 74) K din_72 rfl (by decide) ?_
            refine r_icmp (pc1 := 77) (pc2 := 85) K din_74 rfl (by decide) (by decide) ?_ ?_
            · intro (h95 : x = (95 : Int32))
              exact hy _ (Or.inr (Or.inl h95))
            · intro (h95 : ¬ x = (95 : Int32))
              refine r_iloadN (pc' := 78) K din_77 rfl rfl ?_
              refine r_bipush (v := (45 : Int32)) (pc' := 80) K din_78 rfl (by decide) ?_
              refine r_icmp (pc1 := 83) (pc2 := 85) K din_80 rfl (by decide) (by decide) ?_ ?_
              · intro (h45 : x = (45 : Int32))
                exact hy _ (Or.inl h45)
              · intro (h45 : ¬ x = (45 : Int32))
                exact hn _ (own_nc0 h45 h95 (Or.inl h48) (Or.inr h90) (Or.inl h97))
        · intro (h48 : ¬ x < (48 : Int32))
          refine r_iloadN (pc' := 56) K din_55 rfl rfl ?_
          refine r_bipush (v := (57 : Int32)) (pc' := 58) K din_56 rfl (by decide) ?_
          refine r_icmp (pc1 := 61) (pc2 := 65) K din_58 rfl (by decide) (by decide) ?_ ?_
          · intro (h57 : (57 : Int32) < x)
            refine r_iconst (v := (0 : Int32)) (pc' := 66) K din_65 rfl (by decide) ?_
            refine r_istoreN (Ls' := #[.val (.ref a), .val (.int i), .val (.int x), .val (.int (0 : Int32))]) (pc' := 67) K din_66 rfl (own_i3 hs3) ?_
            refine r_iloadN (pc' := 68) K din_67 rfl rfl ?_
            refine r_if (pc1 := 71) (pc2 := 85) K din_68 rfl (by decide) (by decide) ?_ ?_
            · intro (hz : ¬ (0 : Int32) = (0 : Int32))
              exact absurd rfl hz
            · intro (hz : (0 : Int32) = (0 : Int32))
              refine r_iloadN (pc' := 72) K din_71 rfl rfl ?_
              refine r_bipush (v := (95 : Int32)) (pc' := 74) K din_72 rfl (by decide) ?_
              refine r_icmp (pc1 := 77) (pc2 := 85) K din_74 rfl (by decide) (by decide) ?_ ?_
              · intro (h95 : x = (95 : Int32))
                exact hy _ (Or.inr (Or.inl h95))
              · intro (h95 : ¬ x = (95 : Int32))
                refine r_iloadN (pc' := 78) K din_77 rfl rfl ?_
                refine r_bipush (v := (45 : Int32)) (pc' := 80) K din_78 rfl (by decide) ?_
                refine r_icmp (pc1 := 83) (pc2 := 85) K din_80 rfl (by decide) (by decide) ?_ ?_
                · intro (h45 : x = (45 : Int32))
                  exact hy _ (Or.inl h45)
                · intro (h45 : ¬ x = (45 : Int32))
                  exact hn _ (own_nc0 h45 h95 (Or.inr h57) (Or.inr h90) (Or.inl h97))
          · intro (h57 : ¬ (57 : Int32) < x)
            refine r_iconst (v := (1 : Int32)) (pc' := 62) K din_61 rfl (by decide) ?_
            refine r_goto (pc' := 66) K din_62 (by decide) (by decide) ?_
            refine r_istoreN (Ls' := #[.val (.ref a), .val (.int i), .val (.int x), .val (.int (1 : Int32))]) (pc' := 67) K din_66 rfl (own_i3 hs3) ?_
            refine r_iloadN (pc' := 68) K din_67 rfl rfl ?_
            refine r_if (pc1 := 71) (pc2 := 85) K din_68 rfl (by decide) (by decide) ?_ ?_
            · intro (hz : ¬ (1 : Int32) = (0 : Int32))
              exact hy _ (Or.inr (Or.inr (Or.inl ⟨h48, h57⟩)))
            · intro (hz : (1 : Int32) = (0 : Int32))
              exact absurd hz (by decide)
  · intro (h97 : ¬ x < (97 : Int32))
    refine r_iloadN (pc' := 32) K din_31 rfl rfl ?_
    refine r_bipush (v := (122 : Int32)) (pc' := 34) K din_32 rfl (by decide) ?_
    refine r_icmp (pc1 := 37) (pc2 := 61) K din_34 rfl (by decide) (by decide) ?_ ?_
    · intro (h122 : ¬ (122 : Int32) < x)
      refine r_iconst (v := (1 : Int32)) (pc' := 62) K din_61 rfl (by decide) ?_
      refine r_goto (pc' := 66) K din_62 (by decide) (by decide) ?_
      refine r_istoreN (Ls' := #[.val (.ref a), .val (.int i), .val (.int x), .val (.int (1 : Int32))]) (pc' := 67) K din_66 rfl (own_i3 hs3) ?_
      refine r_iloadN (pc' := 68) K din_67 rfl rfl ?_
      refine r_if (pc1 := 71) (pc2 := 85) K din_68 rfl (by decide) (by decide) ?_ ?_
      · intro (hz : ¬ (1 : Int32) = (0 : Int32))
        exact hy _ (Or.inr (Or.inr (Or.inr (Or.inr ⟨h97, h122⟩))))
      · intro (hz : (1 : Int32) = (0 : Int32))
        exact absurd hz (by decide)
    · intro (h122 : (122 : Int32) < x)
      refine r_iloadN (pc' := 38) K din_37 rfl rfl ?_
      refine r_bipush (v := (65 : Int32)) (pc' := 40) K din_38 rfl (by decide) ?_
      refine r_icmp (pc1 := 43) (pc2 := 49) K din_40 rfl (by decide) (by decide) ?_ ?_
      · intro (h65 : x < (65 : Int32))
        refine r_iloadN (pc' := 50) K din_49 rfl rfl ?_
        refine r_bipush (v := (48 : Int32)) (pc' := 52) K din_50 rfl (by decide) ?_
        refine r_icmp (pc1 := 55) (pc2 := 65) K din_52 rfl (by decide) (by decide) ?_ ?_
        · intro (h48 : x < (48 : Int32))
          refine r_iconst (v := (0 : Int32)) (pc' := 66) K din_65 rfl (by decide) ?_
          refine r_istoreN (Ls' := #[.val (.ref a), .val (.int i), .val (.int x), .val (.int (0 : Int32))]) (pc' := 67) K din_66 rfl (own_i3 hs3) ?_
          refine r_iloadN (pc' := 68) K din_67 rfl rfl ?_
          refine r_if (pc1 := 71) (pc2 := 85) K din_68 rfl (by decide) (by decide) ?_ ?_
          · intro (hz : ¬ (0 : Int32) = (0 : Int32))
            exact absurd rfl hz
          · intro (hz : (0 : Int32) = (0 : Int32))
            refine r_iloadN (pc' := 72) K din_71 rfl rfl ?_
            refine r_bipush (v := (95 : Int32)) (pc' := 74) K din_72 rfl (by decide) ?_
            refine r_icmp (pc1 := 77) (pc2 := 85) K din_74 rfl (by decide) (by decide) ?_ ?_
            · intro (h95 : x = (95 : Int32))
              exact hy _ (Or.inr (Or.inl h95))
            · intro (h95 : ¬ x = (95 : Int32))
              refine r_iloadN (pc' := 78) K din_77 rfl rfl ?_
              refine r_bipush (v := (45 : Int32)) (pc' := 80) K din_78 rfl (by decide) ?_
              refine r_icmp (pc1 := 83) (pc2 := 85) K din_80 rfl (by decide) (by decide) ?_ ?_
              · intro (h45 : x = (45 : Int32))
                exact hy _ (Or.inl h45)
              · intro (h45 : ¬ x = (45 : Int32))
                exact hn _ (own_nc0 h45 h95 (Or.inl h48) (Or.inl h65) (Or.inr h122))
        · intro (h48 : ¬ x < (48 : Int32))
          refine r_iloadN (pc' := 56) K din_55 rfl rfl ?_
          refine r_bipush (v := (57 : Int32)) (pc' := 58) K din_56 rfl (by decide) ?_
          refine r_icmp (pc1 := 61) (pc2 := 65) K din_58 rfl (by decide) (by decide) ?_ ?_
          · intro (h57 : (57 : Int32) < x)
            refine r_iconst (v := (0 : Int32)) (pc' := 66) K din_65 rfl (by decide) ?_
            refine r_istoreN (Ls' := #[.val (.ref a), .val (.int i), .val (.int x), .val (.int (0 : Int32))]) (pc' := 67) K din_66 rfl (own_i3 hs3) ?_
            refine r_iloadN (pc' := 68) K din_67 rfl rfl ?_
            refine r_if (pc1 := 71) (pc2 := 85) K din_68 rfl (by decide) (by decide) ?_ ?_
            · intro (hz : ¬ (0 : Int32) = (0 : Int32))
              exact absurd rfl hz
            · intro (hz : (0 : Int32) = (0 : Int32))
              refine r_iloadN (pc' := 72) K din_71 rfl rfl ?_
              refine r_bipush (v := (95 : Int32)) (pc' := 74) K din_72 rfl (by decide) ?_
              refine r_icmp (pc1 := 77) (pc2 := 85) K din_74 rfl (by decide) (by decide) ?_ ?_
              · intro (h95 : x = (95 : Int32))
                exact hy _ (Or.inr (Or.inl h95))
              · intro (h95 : ¬ x = (95 : Int32))
                refine r_iloadN (pc' := 78) K din_77 rfl rfl ?_
                refine r_bipush (v := (45 : Int32)) (pc' := 80) K din_78 rfl (by decide) ?_
                refine r_icmp (pc1 := 83) (pc2 := 85) K din_80 rfl (by decide) (by decide) ?_ ?_
                · intro (h45 : x = (45 : Int32))
                  exact hy _ (Or.inl h45)
                · intro (h45 : ¬ x = (45 : Int32))
                  exact hn _ (own_nc0 h45 h95 (Or.inr h57) (Or.inl h65) (Or.inr h122))
          · intro (h57 : ¬ (57 : Int32) < x)
            refine r_iconst (v := (1 : Int32)) (pc' := 62) K din_61 rfl (by decide) ?_
            refine r_goto (pc' := 66) K din_62 (by decide) (by decide) ?_
            refine r_istoreN (Ls' := #[.val (.ref a), .val (.int i), .val (.int x), .val (.int (1 : Int32))]) (pc' := 67) K din_66 rfl (own_i3 hs3) ?_
            refine r_iloadN (pc' := 68) K din_67 rfl rfl ?_
            refine r_if (pc1 := 71) (pc2 := 85) K din_68 rfl (by decide) (by decide) ?_ ?_
            · intro (hz : ¬ (1 : Int32) = (0 : Int32))
              exact hy _ (Or.inr (Or.inr (Or.inl ⟨h48, h57⟩)))
            · intro (hz : (1 : Int32) = (0 : Int32))
              exact absurd hz (by decide)
      · intro (h65 : ¬ x < (65 : Int32))
        refine r_iloadN (pc' := 44) K din_43 rfl rfl ?_
        refine r_bipush (v := (90 : Int32)) (pc' := 46) K din_44 rfl (by decide) ?_
        refine r_icmp (pc1 := 49) (pc2 := 61) K din_46 rfl (by decide) (by decide) ?_ ?_
        · intro (h90 : ¬ (90 : Int32) < x)
          refine r_iconst (v := (1 : Int32)) (pc' := 62) K din_61 rfl (by decide) ?_
          refine r_goto (pc' := 66) K din_62 (by decide) (by decide) ?_
          refine r_istoreN (Ls' := #[.val (.ref a), .val (.int i), .val (.int x), .val (.int (1 : Int32))]) (pc' := 67) K din_66 rfl (own_i3 hs3) ?_
          refine r_iloadN (pc' := 68) K din_67 rfl rfl ?_
          refine r_if (pc1 := 71) (pc2 := 85) K din_68 rfl (by decide) (by decide) ?_ ?_
          · intro (hz : ¬ (1 : Int32) = (0 : Int32))
            exact hy _ (Or.inr (Or.inr (Or.inr (Or.inl ⟨h65, h90⟩))))
          · intro (hz : (1 : Int32) = (0 : Int32))
            exact absurd hz (by decide)
        · intro (h90 : (90 : Int32) < x)
          refine r_iloadN (pc' := 50) K din_49 rfl rfl ?_
          refine r_bipush (v := (48 : Int32)) (pc' := 52) K din_50 rfl (by decide) ?_
          refine r_icmp (pc1 := 55) (pc2 := 65) K din_52 rfl (by decide) (by decide) ?_ ?_
          · intro (h48 : x < (48 : Int32))
            refine r_iconst (v := (0 : Int32)) (pc' := 66) K din_65 rfl (by decide) ?_
            refine r_istoreN (Ls' := #[.val (.ref a), .val (.int i), .val (.int x), .val (.int (0 : Int32))]) (pc' := 67) K din_66 rfl (own_i3 hs3) ?_
            refine r_iloadN (pc' := 68) K din_67 rfl rfl ?_
            refine r_if (pc1 := 71) (pc2 := 85) K din_68 rfl (by decide) (by decide) ?_ ?_
            · intro (hz : ¬ (0 : Int32) = (0 : Int32))
              exact absurd rfl hz
            · intro (hz : (0 : Int32) = (0 : Int32))
              refine r_iloadN (pc' := 72) K din_71 rfl rfl ?_
              refine r_bipush (v := (95 : Int32)) (pc' := 74) K din_72 rfl (by decide) ?_
              refine r_icmp (pc1 := 77) (pc2 := 85) K din_74 rfl (by decide) (by decide) ?_ ?_
              · intro (h95 : x = (95 : Int32))
                exact hy _ (Or.inr (Or.inl h95))
              · intro (h95 : ¬ x = (95 : Int32))
                refine r_iloadN (pc' := 78) K din_77 rfl rfl ?_
                refine r_bipush (v := (45 : Int32)) (pc' := 80) K din_78 rfl (by decide) ?_
                refine r_icmp (pc1 := 83) (pc2 := 85) K din_80 rfl (by decide) (by decide) ?_ ?_
                · intro (h45 : x = (45 : Int32))
                  exact hy _ (Or.inl h45)
                · intro (h45 : ¬ x = (45 : Int32))
                  exact hn _ (own_nc0 h45 h95 (Or.inl h48) (Or.inr h90) (Or.inr h122))
          · intro (h48 : ¬ x < (48 : Int32))
            refine r_iloadN (pc' := 56) K din_55 rfl rfl ?_
            refine r_bipush (v := (57 : Int32)) (pc' := 58) K din_56 rfl (by decide) ?_
            refine r_icmp (pc1 := 61) (pc2 := 65) K din_58 rfl (by decide) (by decide) ?_ ?_
            · intro (h57 : (57 : Int32) < x)
              refine r_iconst (v := (0 : Int32)) (pc' := 66) K din_65 rfl (by decide) ?_
              refine r_istoreN (Ls' := #[.val (.ref a), .val (.int i), .val (.int x), .val (.int (0 : Int32))]) (pc' := 67) K din_66 rfl (own_i3 hs3) ?_
              refine r_iloadN (pc' := 68) K din_67 rfl rfl ?_
              refine r_if (pc1 := 71) (pc2 := 85) K din_68 rfl (by decide) (by decide) ?_ ?_
              · intro (hz : ¬ (0 : Int32) = (0 : Int32))
                exact absurd rfl hz
              · intro (hz : (0 : Int32) = (0 : Int32))
                refine r_iloadN (pc' := 72) K din_71 rfl rfl ?_
                refine r_bipush (v := (95 : Int32)) (pc' := 74) K din_72 rfl (by decide) ?_
                refine r_icmp (pc1 := 77) (pc2 := 85) K din_74 rfl (by decide) (by decide) ?_ ?_
                · intro (h95 : x = (95 : Int32))
                  exact hy _ (Or.inr (Or.inl h95))
                · intro (h95 : ¬ x = (95 : Int32))
                  refine r_iloadN (pc' := 78) K din_77 rfl rfl ?_
                  refine r_bipush (v := (45 : Int32)) (pc' := 80) K din_78 rfl (by decide) ?_
                  refine r_icmp (pc1 := 83) (pc2 := 85) K din_80 rfl (by decide) (by decide) ?_ ?_
                  · intro (h45 : x = (45 : Int32))
                    exact hy _ (Or.inl h45)
                  · intro (h45 : ¬ x = (45 : Int32))
                    exact hn _ (own_nc0 h45 h95 (Or.inr h57) (Or.inr h90) (Or.inr h122))
            · intro (h57 : ¬ (57 : Int32) < x)
              refine r_iconst (v := (1 : Int32)) (pc' := 62) K din_61 rfl (by decide) ?_
              refine r_goto (pc' := 66) K din_62 (by decide) (by decide) ?_
              refine r_istoreN (Ls' := #[.val (.ref a), .val (.int i), .val (.int x), .val (.int (1 : Int32))]) (pc' := 67) K din_66 rfl (own_i3 hs3) ?_
              refine r_iloadN (pc' := 68) K din_67 rfl rfl ?_
              refine r_if (pc1 := 71) (pc2 := 85) K din_68 rfl (by decide) (by decide) ?_ ?_
              · intro (hz : ¬ (1 : Int32) = (0 : Int32))
                exact hy _ (Or.inr (Or.inr (Or.inl ⟨h48, h57⟩)))
              · intro (hz : (1 : Int32) = (0 : Int32))
                exact absurd hz (by decide)
def OKn (cs : List Int32) : Prop := ¬ cs = [] ∧ ∀ (j : Nat) (x : Int32), cs[j]? = some x → NC x
set_option maxRecDepth 65536 in
set_option maxHeartbeats 4000000 in
theorem n_loop (hw : ∀ d ∈ tables_1, d.before a0 Z = true) {cs0 : Int32} (Cs : Sta Z Z.heap "java/lang/String" "COMPACT_STRINGS" "Z" (.int cs0)) (hcs : ¬ cs0 = 0) (Sad : Sta Z Z.heap "java/lang/StringUTF16" "$assertionsDisabled" "Z" (.int 1)) (Shi : Sta Z Z.heap "java/lang/StringUTF16" "HI_BYTE_SHIFT" "I" (.int 0)) (Slo : Sta Z Z.heap "java/lang/StringUTF16" "LO_BYTE_SHIFT" "I" (.int 8)) {fm : Value} (Sf : Sta Z Z.heap "jdk/internal/util/Preconditions" "SIOOBE_FORMATTER" "Ljava/util/function/BiFunction;" fm) (hfm : fm.isRef = true) {a : Addr} {cs : List Int32} (hn : cs.length ≤ 4) (F : StrC Z h a cs) (hch : ∀ (j : Nat) (x : Int32), cs[j]? = some x → Ch x) (hne : ¬ cs = [])
    (hf1 : 1 + 1 ≤ R.frames) (hl1 : 1 + (1 + 11) + 13 ≤ R.locals) (hf2 : 4 + 1 ≤ R.frames) (hl2 : 0 + (2 + 11) + 53 ≤ R.locals) (hce : cells ≤ R.cells) (hsl : slots ≤ R.slots)
    (hk1 : ∀ (s1 s2 s3 : Slot) T', St Z "com/example/ermine/ermine/model/Notation" prog_6_method_5_code 4 p l e R s m args below meth c T' h cells slots → OKn cs → Run p e below P T' (mkF m 91 #[.val (.ref a), s1, s2, s3] [])) (hk0 : ∀ (s1 s2 s3 : Slot) T', St Z "com/example/ermine/ermine/model/Notation" prog_6_method_5_code 4 p l e R s m args below meth c T' h cells slots → ¬ OKn cs → Run p e below P T' (mkF m 83 #[.val (.ref a), s1, s2, s3] [])) :
    ∀ (k i : Nat) (s2 s3 : Slot) (T : State), i + k = cs.length → Jvm.RoadKit.One s2 → Jvm.RoadKit.One s3 → St Z "com/example/ermine/ermine/model/Notation" prog_6_method_5_code 4 p l e R s m args below meth c T h cells slots → (∀ (j : Nat) (y : Int32), j < i → cs[j]? = some y → NC y) → Run p e below P T (mkF m 11 #[.val (.ref a), .val (.int (Int32.ofNat i)), s2, s3] []) := by
  intro k
  induction k with
  | zero =>
    intro i s2 s3 T hi hs2 hs3 K hal
    obtain rfl : i = cs.length := by omega
    refine r_iloadN (pc' := 12) K din_11 rfl rfl ?_
    refine r_aloadN (pc' := 13) K din_12 rfl rfl rfl ?_
    refine r_virtual (pc' := 16) (argsL := []) (rest := [.int (Int32.ofNat cs.length)]) (W := 1) K (s_len l hw K.ext Cs hcs hn F) F.exa (hw _ (List.mem_of_getElem? (i := 54) rfl)) (hw _ (List.mem_of_getElem? (i := 55) rfl)) (hw _ (List.mem_of_getElem? (i := 57) rfl)) (hw _ (List.mem_of_getElem? (i := 56) rfl)) (hw _ (List.mem_of_getElem? (i := 8) rfl)) (hw _ (List.mem_of_getElem? (i := 58) rfl)) (by decide) pdI rfl rfl rfl (Nat.le_refl _) hf1 hl1 (by show cells + 0 ≤ _; omega) (by show slots + 0 ≤ _; omega) din_13 rfl ?_
    rintro _ T1 _ K1 ⟨rfl, rfl⟩
    refine r_icmp (pc1 := 19) (pc2 := 91) K1 din_16 rfl (by decide) (by decide) ?_ ?_
    · intro (hc : ¬ (Int32.ofNat cs.length) < (Int32.ofNat cs.length))
      exact hk1 _ _ _ T1 K1 ⟨hne, fun j y q => hal j y (List.getElem?_eq_some_iff.mp q).1 q⟩
    · intro (hc : (Int32.ofNat cs.length) < (Int32.ofNat cs.length))
      exact absurd hc Int32.lt_irrefl
  | succ k ih =>
    intro i s2 s3 T hi hs2 hs3 K hal
    refine r_iloadN (pc' := 12) K din_11 rfl rfl ?_
    refine r_aloadN (pc' := 13) K din_12 rfl rfl rfl ?_
    refine r_virtual (pc' := 16) (argsL := []) (rest := [.int (Int32.ofNat i)]) (W := 1) K (s_len l hw K.ext Cs hcs hn F) F.exa (hw _ (List.mem_of_getElem? (i := 54) rfl)) (hw _ (List.mem_of_getElem? (i := 55) rfl)) (hw _ (List.mem_of_getElem? (i := 57) rfl)) (hw _ (List.mem_of_getElem? (i := 56) rfl)) (hw _ (List.mem_of_getElem? (i := 8) rfl)) (hw _ (List.mem_of_getElem? (i := 58) rfl)) (by decide) pdI rfl rfl rfl (Nat.le_refl _) hf1 hl1 (by show cells + 0 ≤ _; omega) (by show slots + 0 ≤ _; omega) din_13 rfl ?_
    rintro _ T1 _ K1 ⟨rfl, rfl⟩
    refine r_icmp (pc1 := 19) (pc2 := 91) K1 din_16 rfl (by decide) (by decide) ?_ ?_
    · intro (hc : ¬ (Int32.ofNat i) < (Int32.ofNat cs.length))
      exact absurd (own_lt (by omega) (by omega)) hc
    · intro (hc : (Int32.ofNat i) < (Int32.ofNat cs.length))
      obtain ⟨x, hx⟩ := own_get (xs := cs) (j := i) (by omega)
      refine r_aloadN (pc' := 20) K1 din_19 rfl rfl rfl ?_
      refine r_iloadN (pc' := 21) K1 din_20 rfl rfl ?_
      refine r_virtual (pc' := 24) (argsL := [.int (Int32.ofNat i)]) (rest := []) (W := 0) K1 (s_ca l hw K1.ext Cs hcs Sad Shi Slo Sf hfm hn F hx (hch i x hx)) F.exa (hw _ (List.mem_of_getElem? (i := 64) rfl)) (hw _ (List.mem_of_getElem? (i := 65) rfl)) (hw _ (List.mem_of_getElem? (i := 67) rfl)) (hw _ (List.mem_of_getElem? (i := 66) rfl)) (hw _ (List.mem_of_getElem? (i := 8) rfl)) (hw _ (List.mem_of_getElem? (i := 68) rfl)) (by decide) pdCA rfl rfl rfl (Nat.le_refl _) hf2 hl2 (by show cells + 0 ≤ _; omega) (by show slots + 0 ≤ _; omega) din_21 rfl ?_
      rintro _ T2 _ K2 ⟨rfl, rfl⟩
      refine r_istoreN (Ls' := #[.val (.ref a), .val (.int (Int32.ofNat i)), .val (.int x), s3]) (pc' := 25) K2 din_24 rfl (own_i2 hs2) ?_
      refine n_seg K2 hs3 ?_ ?_
      · intro s3' hnc
        refine r_iinc (v := (1 : Int32)) (Ls' := #[.val (.ref a), .val (.int ((Int32.ofNat i) + (1 : Int32))), .val (.int x), .val (.int s3')]) (pc' := 88) K2 din_85 rfl (by decide) rfl rfl ?_
        rw [own_one]
        refine r_goto (pc' := 11) K2 din_88 (by decide) (by decide) ?_
        exact ih (i + 1) _ _ T2 (by omega) (One.val rfl) (One.val rfl) K2 (fun j y q1 q2 => by by_cases q : j = i; (subst q; rw [hx] at q2; cases q2; exact hnc); exact hal j y (by omega) q2)
      · intro s3' hnc
        exact hk0 _ _ _ T2 K2 (fun q => hnc (q.2 i x hx))
end Ls
set_option maxRecDepth 65536 in
set_option maxHeartbeats 4000000 in
theorem n_isN (l : Launch) {Z : State} {a0 : Array Value} (hw : ∀ d ∈ tables_1, d.before a0 Z = true) {h : Heap} (hE : Ext Z.heap h) {cs0 : Int32} (Cs : Sta Z Z.heap "java/lang/String" "COMPACT_STRINGS" "Z" (.int cs0)) (hcs : ¬ cs0 = 0) (Sad : Sta Z Z.heap "java/lang/StringUTF16" "$assertionsDisabled" "Z" (.int 1)) (Shi : Sta Z Z.heap "java/lang/StringUTF16" "HI_BYTE_SHIFT" "I" (.int 0)) (Slo : Sta Z Z.heap "java/lang/StringUTF16" "LO_BYTE_SHIFT" "I" (.int 8)) {fm : Value} (Sf : Sta Z Z.heap "jdk/internal/util/Preconditions" "SIOOBE_FORMATTER" "Ljava/util/function/BiFunction;" fm) (hfm : fm.isRef = true) {a : Addr} {cs : List Int32} (hn : cs.length ≤ 4) (F : StrC Z h a cs) (hch : ∀ (j : Nat) (x : Int32), cs[j]? = some x → Ch x) :
    Con l (⟨"com/example/ermine/ermine/model/Notation", "isName", "(Ljava/lang/String;)Z"⟩ : MethodName) prog_6_method_5_code 4 (some .boolean) [] ({ frames := 5, cells := 0, slots := 0, locals := 66 } : Room) Z #[.ref a] h (fun v h' => h' = h ∧ (v = some (.int 1) ∧ OKn cs ∨ v = some (.int 0) ∧ ¬ (OKn cs))) := by
  refine con_intro (by first | exact plainFor_of_name pnN | decide +kernel) hE ?_
  intro p e s m below meth c T K hret hlk hnm
  have ef : entryFrame m #[.ref a] 4 = (mkF m 0 #[.val (.ref a), .unset, .unset, .unset] []) := by first | (simp [entryFrame, mkF, argsToLocals, Value.category]; done) | rfl
  rw [ef]
  refine r_aloadN (pc' := 1) K din_0 rfl rfl rfl ?_
  refine r_virtual (pc' := 4) (argsL := []) (rest := []) (W := 0) K (s_emp l hw hE hn F) F.exa (hw _ (List.mem_of_getElem? (i := 35) rfl)) (hw _ (List.mem_of_getElem? (i := 36) rfl)) (hw _ (List.mem_of_getElem? (i := 38) rfl)) (hw _ (List.mem_of_getElem? (i := 37) rfl)) (hw _ (List.mem_of_getElem? (i := 8) rfl)) (hw _ (List.mem_of_getElem? (i := 39) rfl)) (by decide) pdZ rfl rfl rfl (Nat.le_refl _) (by decide) (by decide) (by decide) (by decide) din_1 rfl ?_
  rintro _ T1 _ K1 ⟨rfl, ⟨rfl, hq⟩ | ⟨rfl, hq⟩⟩
  · skip
    refine r_if (pc1 := 7) (pc2 := 9) K1 din_4 rfl (by decide) (by decide) ?_ ?_
    · intro (hc : (1 : Int32) = (0 : Int32))
      exact absurd hc (by decide)
    · intro (hc : ¬ (1 : Int32) = (0 : Int32))
      refine r_iconst (v := (0 : Int32)) (pc' := 8) K1 din_7 rfl (by decide) ?_
      exact r_retZ K1 hret hlk (by decide) din_8 (by decide) (by decide) ⟨rfl, Or.inr ⟨rfl, fun q => q.1 hq⟩⟩
  · skip
    refine r_if (pc1 := 7) (pc2 := 9) K1 din_4 rfl (by decide) (by decide) ?_ ?_
    · intro (hc : (0 : Int32) = (0 : Int32))
      refine r_iconst (v := (0 : Int32)) (pc' := 10) K1 din_9 rfl (by decide) ?_
      refine r_istoreN (Ls' := #[.val (.ref a), .val (.int (0 : Int32)), .unset, .unset]) (pc' := 11) K1 din_10 rfl rfl ?_
      refine n_loop hw Cs hcs Sad Shi Slo Sf hfm hn F hch hq (by decide) (by decide) (by decide) (by decide) (by decide) (by decide) ?_ ?_ cs.length 0 .unset .unset T1 (by omega) One.u One.u K1 (fun j y q => absurd q (Nat.not_lt_zero _))
      · intro s1 s2 s3 T2 K2 hok
        refine r_iconst (v := (1 : Int32)) (pc' := 92) K2 din_91 rfl (by decide) ?_
        exact r_retZ K2 hret hlk (by decide) din_92 (by decide) (by decide) ⟨rfl, Or.inl ⟨rfl, hok⟩⟩
      · intro s1 s2 s3 T2 K2 hok
        refine r_iconst (v := (0 : Int32)) (pc' := 84) K2 din_83 rfl (by decide) ?_
        exact r_retZ K2 hret hlk (by decide) din_84 (by decide) (by decide) ⟨rfl, Or.inr ⟨rfl, hok⟩⟩
    · intro (hc : ¬ (0 : Int32) = (0 : Int32))
      exact absurd rfl hc
section Own
variable {Z : State} {a0 : Array Value} {p : Program} {l : Launch} {e : Env} {R : Room} {s : State} {m : MethodId} {args : Array Value} {below : List Frame} {meth : Method} {c : Code} {T : State} {h : Heap} {cells slots : Nat} {P : State → Prop} {vm0 : Vm}
variable {xn xa xb xc xd ln c0 c1 c2 c3 ex got : Int32} {so : Addr}
def Ln (x : Int32) : Prop := x = 0 ∨ x = 1 ∨ x = 2 ∨ x = 3 ∨ x = 4
theorem own_ln (x : Int32) : Ln ((x &&& (2147483647 : Int32)) % (5 : Int32)) := by
  have h := c_and x 2147483647 (by decide)
  have q := (c_irem (x &&& 2147483647) 5 5 (by decide)).1 h.1
  have : ((x &&& (2147483647 : Int32)) % (5 : Int32)).toInt = 0 ∨ ((x &&& (2147483647 : Int32)) % (5 : Int32)).toInt = 1 ∨ ((x &&& (2147483647 : Int32)) % (5 : Int32)).toInt = 2 ∨ ((x &&& (2147483647 : Int32)) % (5 : Int32)).toInt = 3 ∨ ((x &&& (2147483647 : Int32)) % (5 : Int32)).toInt = 4 := by omega
  rcases this with q | q | q | q | q
  · exact Or.inl (Int32.toInt_inj.mp q)
  · exact Or.inr (Or.inl (Int32.toInt_inj.mp q))
  · exact Or.inr (Or.inr (Or.inl (Int32.toInt_inj.mp q)))
  · exact Or.inr (Or.inr (Or.inr (Or.inl (Int32.toInt_inj.mp q))))
  · exact Or.inr (Or.inr (Or.inr (Or.inr (Int32.toInt_inj.mp q))))
set_option maxRecDepth 65536 in
set_option maxHeartbeats 4000000 in
theorem sg0 (hw : ∀ d ∈ tables_1, d.before a0 Z = true) (K : St Z "com/example/ermine/ermine/model/NotationIsNamePinLaw" code 13 p l e room_1 (s.setVm vm0) m args below meth c T h 0 0) (hk : ∀ (ln c0 c1 c2 c3 : Int32) T', Ln ln → Ch c0 → Ch c1 → Ch c2 → Ch c3 → St Z "com/example/ermine/ermine/model/NotationIsNamePinLaw" code 13 p l e room_1 (s.setVm vm0) m args below meth c T' h 0 0 → Run p e below P T' (mkF m 33 #[.val (.int xn), .val (.int xa), .val (.int xb), .val (.int xc), .val (.int xd), .val (.int ln), .val (.int c0), .val (.int c1), .val (.int c2), .val (.int c3), .unset, .unset, .unset] [])) : Run p e below P T (mkF m 0 #[.val (.int xn), .val (.int xa), .val (.int xb), .val (.int xc), .val (.int xd), .unset, .unset, .unset, .unset, .unset, .unset, .unset, .unset] []) := by
  refine r_iloadN (pc' := 1) K at_0 rfl rfl ?_
  refine r_ldcI (pc' := 3) K (hw _ (List.mem_of_getElem? (i := 0) rfl)) at_1 rfl ?_
  refine r_iand (pc' := 4) K at_3 rfl ?_
  refine r_iconst (v := (5 : Int32)) (pc' := 5) K at_4 rfl (by decide) ?_
  refine r_irem (pc' := 6) K at_5 rfl (by decide) ?_
  have hln := own_ln xn
  generalize (xn &&& (2147483647 : Int32)) % (5 : Int32) = ln at hln ⊢
  refine r_istore (Ls' := #[.val (.int xn), .val (.int xa), .val (.int xb), .val (.int xc), .val (.int xd), .val (.int ln), .unset, .unset, .unset, .unset, .unset, .unset, .unset]) (pc' := 8) K at_6 rfl rfl ?_
  refine r_iloadN (pc' := 9) K at_8 rfl rfl ?_
  refine r_static (pc' := 12) (argsL := [.int xa]) (rest := []) (W := 0) K (m_dr l hw K.ext) (hw _ (List.mem_of_getElem? (i := 1) rfl)) (hw _ (List.mem_of_getElem? (i := 2) rfl)) (hw _ (List.mem_of_getElem? (i := 3) rfl)) (hw _ (List.mem_of_getElem? (i := 4) rfl)) (by decide) pdCA rfl rfl rfl (Nat.le_refl _) (by decide) (by decide) (by decide) (by decide) at_9 rfl ?_
  rintro _ T1 _ K1 ⟨c0, rfl, hc0, rfl⟩
  refine r_istore (Ls' := #[.val (.int xn), .val (.int xa), .val (.int xb), .val (.int xc), .val (.int xd), .val (.int ln), .val (.int c0), .unset, .unset, .unset, .unset, .unset, .unset]) (pc' := 14) K1 at_12 rfl rfl ?_
  refine r_iloadN (pc' := 15) K1 at_14 rfl rfl ?_
  refine r_static (pc' := 18) (argsL := [.int xb]) (rest := []) (W := 0) K1 (m_dr l hw K.ext) (hw _ (List.mem_of_getElem? (i := 1) rfl)) (hw _ (List.mem_of_getElem? (i := 2) rfl)) (hw _ (List.mem_of_getElem? (i := 3) rfl)) (hw _ (List.mem_of_getElem? (i := 4) rfl)) (by decide) pdCA rfl rfl rfl (Nat.le_refl _) (by decide) (by decide) (by decide) (by decide) at_15 rfl ?_
  rintro _ T2 _ K2 ⟨c1, rfl, hc1, rfl⟩
  refine r_istore (Ls' := #[.val (.int xn), .val (.int xa), .val (.int xb), .val (.int xc), .val (.int xd), .val (.int ln), .val (.int c0), .val (.int c1), .unset, .unset, .unset, .unset, .unset]) (pc' := 20) K2 at_18 rfl rfl ?_
  refine r_iloadN (pc' := 21) K2 at_20 rfl rfl ?_
  refine r_static (pc' := 24) (argsL := [.int xc]) (rest := []) (W := 0) K2 (m_dr l hw K.ext) (hw _ (List.mem_of_getElem? (i := 1) rfl)) (hw _ (List.mem_of_getElem? (i := 2) rfl)) (hw _ (List.mem_of_getElem? (i := 3) rfl)) (hw _ (List.mem_of_getElem? (i := 4) rfl)) (by decide) pdCA rfl rfl rfl (Nat.le_refl _) (by decide) (by decide) (by decide) (by decide) at_21 rfl ?_
  rintro _ T3 _ K3 ⟨c2, rfl, hc2, rfl⟩
  refine r_istore (Ls' := #[.val (.int xn), .val (.int xa), .val (.int xb), .val (.int xc), .val (.int xd), .val (.int ln), .val (.int c0), .val (.int c1), .val (.int c2), .unset, .unset, .unset, .unset]) (pc' := 26) K3 at_24 rfl rfl ?_
  refine r_iload (pc' := 28) K3 at_26 rfl rfl ?_
  refine r_static (pc' := 31) (argsL := [.int xd]) (rest := []) (W := 0) K3 (m_dr l hw K.ext) (hw _ (List.mem_of_getElem? (i := 1) rfl)) (hw _ (List.mem_of_getElem? (i := 2) rfl)) (hw _ (List.mem_of_getElem? (i := 3) rfl)) (hw _ (List.mem_of_getElem? (i := 4) rfl)) (by decide) pdCA rfl rfl rfl (Nat.le_refl _) (by decide) (by decide) (by decide) (by decide) at_28 rfl ?_
  rintro _ T4 _ K4 ⟨c3, rfl, hc3, rfl⟩
  refine r_istore (Ls' := #[.val (.int xn), .val (.int xa), .val (.int xb), .val (.int xc), .val (.int xd), .val (.int ln), .val (.int c0), .val (.int c1), .val (.int c2), .val (.int c3), .unset, .unset, .unset]) (pc' := 33) K4 at_31 rfl rfl ?_
  exact hk ln c0 c1 c2 c3 T4 hln hc0 hc1 hc2 hc3 K4
theorem MK.ch {ln c0 c1 c2 c3 : Int32} (h0 : Ch c0) (h1 : Ch c1) (h2 : Ch c2) (h3 : Ch c3) : ∀ (j : Nat) (x : Int32), (MK ln c0 c1 c2 c3)[j]? = some x → Ch x := by
  intro j x h
  have hm := List.mem_of_getElem? h
  unfold MK at hm
  repeat' split at hm
  all_goals simp only [List.mem_cons, List.not_mem_nil, or_false] at hm
  all_goals first | (exact hm.elim; done) | skip
  · subst hm; exact h0
  · rcases hm with rfl | rfl <;> assumption
  · rcases hm with rfl | rfl | rfl <;> assumption
  · rcases hm with rfl | rfl | rfl | rfl <;> assumption
/-- the first wide sign, if there is one -/
theorem own_first : ∀ cs : List Int32, (∀ (i : Nat) (x : Int32), cs[i]? = some x → ¬ 255 < x) ∨ ∃ (i : Nat) (x : Int32), cs[i]? = some x ∧ 255 < x ∧ ∀ (j : Nat) (y : Int32), j < i → cs[j]? = some y → ¬ 255 < y
  | [] => Or.inl fun i x h => by simp at h
  | c :: cs => by
    by_cases hc : 255 < c
    · exact Or.inr ⟨0, c, rfl, hc, fun j y hj => absurd hj (Nat.not_lt_zero _)⟩
    · rcases own_first cs with h | ⟨i, x, h1, h2, h3⟩
      · refine Or.inl fun i x hx => ?_
        cases i with
        | zero => cases hx; exact hc
        | succ i => exact h i x (by simpa using hx)
      · refine Or.inr ⟨i + 1, x, by simpa using h1, h2, fun j y hj hy => ?_⟩
        cases j with
        | zero => cases hy; exact hc
        | succ j => exact h3 j y (by omega) (by simpa using hy)
set_option maxRecDepth 65536 in
set_option maxHeartbeats 4000000 in
theorem sg33 (hw : ∀ d ∈ tables_1, d.before a0 Z = true) (hEL : EW Z a0 [("java/lang/String", 7)]) {cs0 : Int32} (Cs : Sta Z Z.heap "java/lang/String" "COMPACT_STRINGS" "Z" (.int cs0)) (hcs : ¬ cs0 = 0) (Sad : Sta Z Z.heap "java/lang/StringUTF16" "$assertionsDisabled" "Z" (.int 1)) (Shi : Sta Z Z.heap "java/lang/StringUTF16" "HI_BYTE_SHIFT" "I" (.int 0)) (Slo : Sta Z Z.heap "java/lang/StringUTF16" "LO_BYTE_SHIFT" "I" (.int 8)) {fm : Value} (Sf : Sta Z Z.heap "jdk/internal/util/Preconditions" "SIOOBE_FORMATTER" "Ljava/util/function/BiFunction;" fm) (hfm : fm.isRef = true) (K : St Z "com/example/ermine/ermine/model/NotationIsNamePinLaw" code 13 p l e room_1 (s.setVm vm0) m args below meth c T h 0 0) (I : Inv Z [("java/lang/String", 7)] s vm0 h) (hc0 : Ch c0) (hc1 : Ch c1) (hc2 : Ch c2) (hc3 : Ch c3) (hk : ∀ so T' h' vm1, St Z "com/example/ermine/ermine/model/NotationIsNamePinLaw" code 13 p l e room_1 (s.setVm vm1) m args below meth c T' h' 6 20 → Inv Z [("java/lang/String", 7)] s vm1 h' → StrC Z h' so (MK ln c0 c1 c2 c3) → Run p e below P T' (mkF m 55 #[.val (.int xn), .val (.int xa), .val (.int xb), .val (.int xc), .val (.int xd), .val (.int ln), .val (.int c0), .val (.int c1), .val (.int c2), .val (.int c3), .val (.ref so), .unset, .unset] [])) : Run p e below P T (mkF m 33 #[.val (.int xn), .val (.int xa), .val (.int xb), .val (.int xc), .val (.int xd), .val (.int ln), .val (.int c0), .val (.int c1), .val (.int c2), .val (.int c3), .unset, .unset, .unset] []) := by
  refine r_new (pc' := 36) K (hw _ (List.mem_of_getElem? (i := 6) rfl)) (hw _ (List.mem_of_getElem? (i := 7) rfl)) (hw _ (List.mem_of_getElem? (i := 8) rfl)) at_33 rfl (by decide) (by decide) ?_
  intro T1 h1 so ho K1 E1 O1 D1
  refine r_dup (pc' := 37) K1 at_36 rfl rfl ?_
  refine r_iload (pc' := 39) K1 at_37 rfl rfl ?_
  refine r_iload (pc' := 41) K1 at_39 rfl rfl ?_
  refine r_iload (pc' := 43) K1 at_41 rfl rfl ?_
  refine r_iload (pc' := 45) K1 at_43 rfl rfl ?_
  refine r_iload (pc' := 47) K1 at_45 rfl rfl ?_
  refine r_static (pc' := 50) (argsL := [.int ln, .int c0, .int c1, .int c2, .int c3]) (rest := [.ref so, .ref so]) (W := 2) K1 (m_mk l hw K1.ext (ln := ln) hc0 hc1 hc2 hc3) (hw _ (List.mem_of_getElem? (i := 9) rfl)) (hw _ (List.mem_of_getElem? (i := 10) rfl)) (hw _ (List.mem_of_getElem? (i := 3) rfl)) (hw _ (List.mem_of_getElem? (i := 11) rfl)) (by decide) pdMK rfl rfl rfl (Nat.le_refl _) (by decide) (by decide) (by decide) (by decide) at_47 rfl ?_
  rintro _ T2 h2 K2 ⟨d, kd, rfl, hd, E2, A2⟩
  have go : Z.heap.size ≤ so := by rw [ho]; exact K.sz
  have V2 := (D1 (Or.inr (hw _ (List.mem_of_getElem? (i := 25) rfl))) (ty := .array .byte) (by decide)).ext E2
  have C2 := (D1 (Or.inr (hw _ (List.mem_of_getElem? (i := 26) rfl))) (ty := .byte) (by decide)).ext E2
  have O2 := O1.ext E2
  have I2 := (I.ext E1).ext E2
  have Fo : Safe Z [("java/lang/String", 7)] _ h2 so := Safe.ext E2 (I.ext E1).ch (I.fresh E1 (Nat.le_of_eq ho.symm))
  have hml := MK.len ln c0 c1 c2 c3
  have hmc := MK.ch (ln := ln) hc0 hc1 hc2 hc3
  generalize MK ln c0 c1 c2 c3 = cs at A2 hml hmc hk ⊢
  by_cases hne : cs = []
  · subst hne
    refine w_special (pc' := 53) (argsL := [.ref d]) (rest := [.ref so]) (W := 1) K2 I2 hEL (c_iCe l hw K2.ext hEL go O2 V2 C2 A2) rfl (hw _ (List.mem_of_getElem? (i := 13) rfl)) (hw _ (List.mem_of_getElem? (i := 14) rfl)) (hw _ (List.mem_of_getElem? (i := 8) rfl)) (hw _ (List.mem_of_getElem? (i := 15) rfl)) (by decide) pdSC rfl rfl rfl (Nat.le_refl _) (by decide) (by decide) (by decide) (by decide) at_50 rfl ?_
    rintro _ T3 h3 vm3 K3 I3 C3 ⟨rfl, Kp3, S3⟩
    refine r_astore (Ls' := #[.val (.int xn), .val (.int xa), .val (.int xb), .val (.int xc), .val (.int xd), .val (.int ln), .val (.int c0), .val (.int c1), .val (.int c2), .val (.int c3), .val (.ref so), .unset, .unset]) (pc' := 55) K3 at_53 rfl rfl rfl ?_
    exact hk so T3 h3 vm3 (K3.more (by decide) (by decide)) I3 (Or.inl ⟨S3, fun i x h => by simp at h⟩)
  have h1l : 1 ≤ cs.length := by cases cs with | nil => exact absurd rfl hne | cons => simp
  rcases own_first cs with hlat | ⟨i0, x0, hx0, hw0, hlt⟩
  · skip
    refine r_special (pc' := 53) (argsL := [.ref d]) (rest := [.ref so]) (W := 1) K2 (c_iC l hw K2.ext go O2 V2 C2 hml A2 h1l hlat Cs hcs) rfl (hw _ (List.mem_of_getElem? (i := 13) rfl)) (hw _ (List.mem_of_getElem? (i := 14) rfl)) (hw _ (List.mem_of_getElem? (i := 8) rfl)) (hw _ (List.mem_of_getElem? (i := 15) rfl)) (by decide) pdSC rfl rfl rfl (Nat.le_refl _) (by decide) (by decide) (by decide) (by decide) at_50 rfl ?_
    rintro _ T3 h3 K3 ⟨rfl, Kp3, S3⟩
    refine r_astore (Ls' := #[.val (.int xn), .val (.int xa), .val (.int xb), .val (.int xc), .val (.int xd), .val (.int ln), .val (.int c0), .val (.int c1), .val (.int c2), .val (.int c3), .val (.ref so), .unset, .unset]) (pc' := 55) K3 at_53 rfl rfl rfl ?_
    exact hk so T3 h3 vm0 (K3.more (by decide) (by decide)) (I2.keep Kp3 (sfS Fo sf0)) (Or.inl ⟨S3, hlat⟩)
  · skip
    refine r_special (pc' := 53) (argsL := [.ref d]) (rest := [.ref so]) (W := 1) K2 (u_iC l hw K2.ext Sad Shi Slo go O2 V2 C2 hml A2 hx0 hw0 hlt (hmc i0 x0 hx0) Cs hcs) rfl (hw _ (List.mem_of_getElem? (i := 13) rfl)) (hw _ (List.mem_of_getElem? (i := 14) rfl)) (hw _ (List.mem_of_getElem? (i := 8) rfl)) (hw _ (List.mem_of_getElem? (i := 15) rfl)) (by decide) pdSC rfl rfl rfl (Nat.le_refl _) (by decide) (by decide) (by decide) (by decide) at_50 rfl ?_
    rintro _ T3 h3 K3 ⟨rfl, Kp3, S3⟩
    refine r_astore (Ls' := #[.val (.int xn), .val (.int xa), .val (.int xb), .val (.int xc), .val (.int xd), .val (.int ln), .val (.int c0), .val (.int c1), .val (.int c2), .val (.int c3), .val (.ref so), .unset, .unset]) (pc' := 55) K3 at_53 rfl rfl rfl ?_
    exact hk so T3 h3 vm0 (K3.more (by decide) (by decide)) (I2.keep Kp3 (sfS Fo sf0)) (Or.inr S3)
set_option maxRecDepth 65536 in
set_option maxHeartbeats 4000000 in
theorem sg55 (K : St Z "com/example/ermine/ermine/model/NotationIsNamePinLaw" code 13 p l e room_1 (s.setVm vm0) m args below meth c T h cells slots) (hk : ∀ ex : Int32, (ex = 1 ∧ 0 < ln ∨ ex = 0 ∧ ¬ (0 < ln)) → Run p e below P T (mkF m 67 #[.val (.int xn), .val (.int xa), .val (.int xb), .val (.int xc), .val (.int xd), .val (.int ln), .val (.int c0), .val (.int c1), .val (.int c2), .val (.int c3), .val (.ref so), .val (.int ex), .unset] [])) : Run p e below P T (mkF m 55 #[.val (.int xn), .val (.int xa), .val (.int xb), .val (.int xc), .val (.int xd), .val (.int ln), .val (.int c0), .val (.int c1), .val (.int c2), .val (.int c3), .val (.ref so), .unset, .unset] []) := by
  refine r_iload (pc' := 57) K at_55 rfl rfl ?_
  refine r_if (pc1 := 60) (pc2 := 64) K at_57 rfl (by decide) (by decide) ?_ ?_
  · intro (hc : ¬ (0 : Int32) < ln)
    refine r_iconst (v := (0 : Int32)) (pc' := 65) K at_64 rfl (by decide) ?_
    refine r_istore (Ls' := #[.val (.int xn), .val (.int xa), .val (.int xb), .val (.int xc), .val (.int xd), .val (.int ln), .val (.int c0), .val (.int c1), .val (.int c2), .val (.int c3), .val (.ref so), .val (.int (0 : Int32)), .unset]) (pc' := 67) K at_65 rfl rfl ?_
    exact hk _ (Or.inr ⟨rfl, hc⟩)
  · intro (hc : (0 : Int32) < ln)
    refine r_iconst (v := (1 : Int32)) (pc' := 61) K at_60 rfl (by decide) ?_
    refine r_goto (pc' := 65) K at_61 (by decide) (by decide) ?_
    refine r_istore (Ls' := #[.val (.int xn), .val (.int xa), .val (.int xb), .val (.int xc), .val (.int xd), .val (.int ln), .val (.int c0), .val (.int c1), .val (.int c2), .val (.int c3), .val (.ref so), .val (.int (1 : Int32)), .unset]) (pc' := 67) K at_65 rfl rfl ?_
    exact hk _ (Or.inl ⟨rfl, hc⟩)
theorem own_and0 {ex : Int32} {A B : Prop} (h : ex = 1 ∧ A ∨ ex = 0 ∧ ¬ (A)) (b : B) : ex = 1 ∧ (A ∧ B) ∨ ex = 0 ∧ ¬ (A ∧ B) := by
  rcases h with ⟨q, w⟩ | ⟨q, w⟩
  · exact Or.inl ⟨q, w, b⟩
  · exact Or.inr ⟨q, fun u => w u.1⟩
set_option maxRecDepth 65536 in
set_option maxHeartbeats 4000000 in
theorem sg67 (hw : ∀ d ∈ tables_1, d.before a0 Z = true) (K : St Z "com/example/ermine/ermine/model/NotationIsNamePinLaw" code 13 p l e room_1 (s.setVm vm0) m args below meth c T h 6 20) {Pp : Prop} (hP : (ex = 1 ∧ Pp ∨ ex = 0 ∧ ¬ (Pp))) (hk : ∀ ex T', St Z "com/example/ermine/ermine/model/NotationIsNamePinLaw" code 13 p l e room_1 (s.setVm vm0) m args below meth c T' h 6 20 → (ex = 1 ∧ (Pp ∧ (¬ 0 < ln ∨ NC c0)) ∨ ex = 0 ∧ ¬ ((Pp ∧ (¬ 0 < ln ∨ NC c0)))) → Run p e below P T' (mkF m 83 #[.val (.int xn), .val (.int xa), .val (.int xb), .val (.int xc), .val (.int xd), .val (.int ln), .val (.int c0), .val (.int c1), .val (.int c2), .val (.int c3), .val (.ref so), .val (.int ex), .unset] [])) : Run p e below P T (mkF m 67 #[.val (.int xn), .val (.int xa), .val (.int xb), .val (.int xc), .val (.int xd), .val (.int ln), .val (.int c0), .val (.int c1), .val (.int c2), .val (.int c3), .val (.ref so), .val (.int ex), .unset] []) := by
  refine r_iload (pc' := 69) K at_67 rfl rfl ?_
  refine r_if (pc1 := 72) (pc2 := 83) K at_69 rfl (by decide) (by decide) ?_ ?_
  · intro (hc : ¬ (0 : Int32) < ln)
    exact hk ex T K (own_and0 hP (Or.inl hc))
  · intro (hc : (0 : Int32) < ln)
    refine r_iload (pc' := 74) K at_72 rfl rfl ?_
    refine r_static (pc' := 77) (argsL := [.int c0]) (rest := []) (W := 0) K (m_nc l hw K.ext) (hw _ (List.mem_of_getElem? (i := 51) rfl)) (hw _ (List.mem_of_getElem? (i := 52) rfl)) (hw _ (List.mem_of_getElem? (i := 3) rfl)) (hw _ (List.mem_of_getElem? (i := 53) rfl)) (by decide) pdNC rfl rfl rfl (Nat.le_refl _) (by decide) (by decide) (by decide) (by decide) at_74 rfl ?_
    rintro _ T1 _ K1 ⟨rfl, ⟨rfl, hq⟩ | ⟨rfl, hq⟩⟩
    · skip
      refine r_if (pc1 := 80) (pc2 := 83) K1 at_77 rfl (by decide) (by decide) ?_ ?_
      · intro (hz : ¬ (1 : Int32) = (0 : Int32))
        exact hk ex T1 K1 (own_and0 hP (Or.inr hq))
      · intro (hz : (1 : Int32) = (0 : Int32))
        exact absurd hz (by decide)
    · skip
      refine r_if (pc1 := 80) (pc2 := 83) K1 at_77 rfl (by decide) (by decide) ?_ ?_
      · intro (hz : ¬ (0 : Int32) = (0 : Int32))
        exact absurd rfl hz
      · intro (hz : (0 : Int32) = (0 : Int32))
        refine r_iconst (v := (0 : Int32)) (pc' := 81) K1 at_80 rfl (by decide) ?_
        refine r_istore (Ls' := #[.val (.int xn), .val (.int xa), .val (.int xb), .val (.int xc), .val (.int xd), .val (.int ln), .val (.int c0), .val (.int c1), .val (.int c2), .val (.int c3), .val (.ref so), .val (.int (0 : Int32)), .unset]) (pc' := 83) K1 at_81 rfl rfl ?_
        exact hk 0 T1 K1 (Or.inr ⟨rfl, fun q => q.2.elim (fun u => u hc) hq⟩)
set_option maxRecDepth 65536 in
set_option maxHeartbeats 4000000 in
theorem sg83 (hw : ∀ d ∈ tables_1, d.before a0 Z = true) (K : St Z "com/example/ermine/ermine/model/NotationIsNamePinLaw" code 13 p l e room_1 (s.setVm vm0) m args below meth c T h 6 20) {Pp : Prop} (hP : (ex = 1 ∧ Pp ∨ ex = 0 ∧ ¬ (Pp))) (hk : ∀ ex T', St Z "com/example/ermine/ermine/model/NotationIsNamePinLaw" code 13 p l e room_1 (s.setVm vm0) m args below meth c T' h 6 20 → (ex = 1 ∧ (Pp ∧ (¬ 1 < ln ∨ NC c1)) ∨ ex = 0 ∧ ¬ ((Pp ∧ (¬ 1 < ln ∨ NC c1)))) → Run p e below P T' (mkF m 100 #[.val (.int xn), .val (.int xa), .val (.int xb), .val (.int xc), .val (.int xd), .val (.int ln), .val (.int c0), .val (.int c1), .val (.int c2), .val (.int c3), .val (.ref so), .val (.int ex), .unset] [])) : Run p e below P T (mkF m 83 #[.val (.int xn), .val (.int xa), .val (.int xb), .val (.int xc), .val (.int xd), .val (.int ln), .val (.int c0), .val (.int c1), .val (.int c2), .val (.int c3), .val (.ref so), .val (.int ex), .unset] []) := by
  refine r_iload (pc' := 85) K at_83 rfl rfl ?_
  refine r_iconst (v := (1 : Int32)) (pc' := 86) K at_85 rfl (by decide) ?_
  refine r_icmp (pc1 := 89) (pc2 := 100) K at_86 rfl (by decide) (by decide) ?_ ?_
  · intro (hc : ¬ (1 : Int32) < ln)
    exact hk ex T K (own_and0 hP (Or.inl hc))
  · intro (hc : (1 : Int32) < ln)
    refine r_iload (pc' := 91) K at_89 rfl rfl ?_
    refine r_static (pc' := 94) (argsL := [.int c1]) (rest := []) (W := 0) K (m_nc l hw K.ext) (hw _ (List.mem_of_getElem? (i := 51) rfl)) (hw _ (List.mem_of_getElem? (i := 52) rfl)) (hw _ (List.mem_of_getElem? (i := 3) rfl)) (hw _ (List.mem_of_getElem? (i := 53) rfl)) (by decide) pdNC rfl rfl rfl (Nat.le_refl _) (by decide) (by decide) (by decide) (by decide) at_91 rfl ?_
    rintro _ T1 _ K1 ⟨rfl, ⟨rfl, hq⟩ | ⟨rfl, hq⟩⟩
    · skip
      refine r_if (pc1 := 97) (pc2 := 100) K1 at_94 rfl (by decide) (by decide) ?_ ?_
      · intro (hz : ¬ (1 : Int32) = (0 : Int32))
        exact hk ex T1 K1 (own_and0 hP (Or.inr hq))
      · intro (hz : (1 : Int32) = (0 : Int32))
        exact absurd hz (by decide)
    · skip
      refine r_if (pc1 := 97) (pc2 := 100) K1 at_94 rfl (by decide) (by decide) ?_ ?_
      · intro (hz : ¬ (0 : Int32) = (0 : Int32))
        exact absurd rfl hz
      · intro (hz : (0 : Int32) = (0 : Int32))
        refine r_iconst (v := (0 : Int32)) (pc' := 98) K1 at_97 rfl (by decide) ?_
        refine r_istore (Ls' := #[.val (.int xn), .val (.int xa), .val (.int xb), .val (.int xc), .val (.int xd), .val (.int ln), .val (.int c0), .val (.int c1), .val (.int c2), .val (.int c3), .val (.ref so), .val (.int (0 : Int32)), .unset]) (pc' := 100) K1 at_98 rfl rfl ?_
        exact hk 0 T1 K1 (Or.inr ⟨rfl, fun q => q.2.elim (fun u => u hc) hq⟩)
set_option maxRecDepth 65536 in
set_option maxHeartbeats 4000000 in
theorem sg100 (hw : ∀ d ∈ tables_1, d.before a0 Z = true) (K : St Z "com/example/ermine/ermine/model/NotationIsNamePinLaw" code 13 p l e room_1 (s.setVm vm0) m args below meth c T h 6 20) {Pp : Prop} (hP : (ex = 1 ∧ Pp ∨ ex = 0 ∧ ¬ (Pp))) (hk : ∀ ex T', St Z "com/example/ermine/ermine/model/NotationIsNamePinLaw" code 13 p l e room_1 (s.setVm vm0) m args below meth c T' h 6 20 → (ex = 1 ∧ (Pp ∧ (¬ 2 < ln ∨ NC c2)) ∨ ex = 0 ∧ ¬ ((Pp ∧ (¬ 2 < ln ∨ NC c2)))) → Run p e below P T' (mkF m 117 #[.val (.int xn), .val (.int xa), .val (.int xb), .val (.int xc), .val (.int xd), .val (.int ln), .val (.int c0), .val (.int c1), .val (.int c2), .val (.int c3), .val (.ref so), .val (.int ex), .unset] [])) : Run p e below P T (mkF m 100 #[.val (.int xn), .val (.int xa), .val (.int xb), .val (.int xc), .val (.int xd), .val (.int ln), .val (.int c0), .val (.int c1), .val (.int c2), .val (.int c3), .val (.ref so), .val (.int ex), .unset] []) := by
  refine r_iload (pc' := 102) K at_100 rfl rfl ?_
  refine r_iconst (v := (2 : Int32)) (pc' := 103) K at_102 rfl (by decide) ?_
  refine r_icmp (pc1 := 106) (pc2 := 117) K at_103 rfl (by decide) (by decide) ?_ ?_
  · intro (hc : ¬ (2 : Int32) < ln)
    exact hk ex T K (own_and0 hP (Or.inl hc))
  · intro (hc : (2 : Int32) < ln)
    refine r_iload (pc' := 108) K at_106 rfl rfl ?_
    refine r_static (pc' := 111) (argsL := [.int c2]) (rest := []) (W := 0) K (m_nc l hw K.ext) (hw _ (List.mem_of_getElem? (i := 51) rfl)) (hw _ (List.mem_of_getElem? (i := 52) rfl)) (hw _ (List.mem_of_getElem? (i := 3) rfl)) (hw _ (List.mem_of_getElem? (i := 53) rfl)) (by decide) pdNC rfl rfl rfl (Nat.le_refl _) (by decide) (by decide) (by decide) (by decide) at_108 rfl ?_
    rintro _ T1 _ K1 ⟨rfl, ⟨rfl, hq⟩ | ⟨rfl, hq⟩⟩
    · skip
      refine r_if (pc1 := 114) (pc2 := 117) K1 at_111 rfl (by decide) (by decide) ?_ ?_
      · intro (hz : ¬ (1 : Int32) = (0 : Int32))
        exact hk ex T1 K1 (own_and0 hP (Or.inr hq))
      · intro (hz : (1 : Int32) = (0 : Int32))
        exact absurd hz (by decide)
    · skip
      refine r_if (pc1 := 114) (pc2 := 117) K1 at_111 rfl (by decide) (by decide) ?_ ?_
      · intro (hz : ¬ (0 : Int32) = (0 : Int32))
        exact absurd rfl hz
      · intro (hz : (0 : Int32) = (0 : Int32))
        refine r_iconst (v := (0 : Int32)) (pc' := 115) K1 at_114 rfl (by decide) ?_
        refine r_istore (Ls' := #[.val (.int xn), .val (.int xa), .val (.int xb), .val (.int xc), .val (.int xd), .val (.int ln), .val (.int c0), .val (.int c1), .val (.int c2), .val (.int c3), .val (.ref so), .val (.int (0 : Int32)), .unset]) (pc' := 117) K1 at_115 rfl rfl ?_
        exact hk 0 T1 K1 (Or.inr ⟨rfl, fun q => q.2.elim (fun u => u hc) hq⟩)
set_option maxRecDepth 65536 in
set_option maxHeartbeats 4000000 in
theorem sg117 (hw : ∀ d ∈ tables_1, d.before a0 Z = true) (K : St Z "com/example/ermine/ermine/model/NotationIsNamePinLaw" code 13 p l e room_1 (s.setVm vm0) m args below meth c T h 6 20) {Pp : Prop} (hP : (ex = 1 ∧ Pp ∨ ex = 0 ∧ ¬ (Pp))) (hk : ∀ ex T', St Z "com/example/ermine/ermine/model/NotationIsNamePinLaw" code 13 p l e room_1 (s.setVm vm0) m args below meth c T' h 6 20 → (ex = 1 ∧ (Pp ∧ (¬ 3 < ln ∨ NC c3)) ∨ ex = 0 ∧ ¬ ((Pp ∧ (¬ 3 < ln ∨ NC c3)))) → Run p e below P T' (mkF m 134 #[.val (.int xn), .val (.int xa), .val (.int xb), .val (.int xc), .val (.int xd), .val (.int ln), .val (.int c0), .val (.int c1), .val (.int c2), .val (.int c3), .val (.ref so), .val (.int ex), .unset] [])) : Run p e below P T (mkF m 117 #[.val (.int xn), .val (.int xa), .val (.int xb), .val (.int xc), .val (.int xd), .val (.int ln), .val (.int c0), .val (.int c1), .val (.int c2), .val (.int c3), .val (.ref so), .val (.int ex), .unset] []) := by
  refine r_iload (pc' := 119) K at_117 rfl rfl ?_
  refine r_iconst (v := (3 : Int32)) (pc' := 120) K at_119 rfl (by decide) ?_
  refine r_icmp (pc1 := 123) (pc2 := 134) K at_120 rfl (by decide) (by decide) ?_ ?_
  · intro (hc : ¬ (3 : Int32) < ln)
    exact hk ex T K (own_and0 hP (Or.inl hc))
  · intro (hc : (3 : Int32) < ln)
    refine r_iload (pc' := 125) K at_123 rfl rfl ?_
    refine r_static (pc' := 128) (argsL := [.int c3]) (rest := []) (W := 0) K (m_nc l hw K.ext) (hw _ (List.mem_of_getElem? (i := 51) rfl)) (hw _ (List.mem_of_getElem? (i := 52) rfl)) (hw _ (List.mem_of_getElem? (i := 3) rfl)) (hw _ (List.mem_of_getElem? (i := 53) rfl)) (by decide) pdNC rfl rfl rfl (Nat.le_refl _) (by decide) (by decide) (by decide) (by decide) at_125 rfl ?_
    rintro _ T1 _ K1 ⟨rfl, ⟨rfl, hq⟩ | ⟨rfl, hq⟩⟩
    · skip
      refine r_if (pc1 := 131) (pc2 := 134) K1 at_128 rfl (by decide) (by decide) ?_ ?_
      · intro (hz : ¬ (1 : Int32) = (0 : Int32))
        exact hk ex T1 K1 (own_and0 hP (Or.inr hq))
      · intro (hz : (1 : Int32) = (0 : Int32))
        exact absurd hz (by decide)
    · skip
      refine r_if (pc1 := 131) (pc2 := 134) K1 at_128 rfl (by decide) (by decide) ?_ ?_
      · intro (hz : ¬ (0 : Int32) = (0 : Int32))
        exact absurd rfl hz
      · intro (hz : (0 : Int32) = (0 : Int32))
        refine r_iconst (v := (0 : Int32)) (pc' := 132) K1 at_131 rfl (by decide) ?_
        refine r_istore (Ls' := #[.val (.int xn), .val (.int xa), .val (.int xb), .val (.int xc), .val (.int xd), .val (.int ln), .val (.int c0), .val (.int c1), .val (.int c2), .val (.int c3), .val (.ref so), .val (.int (0 : Int32)), .unset]) (pc' := 134) K1 at_132 rfl rfl ?_
        exact hk 0 T1 K1 (Or.inr ⟨rfl, fun q => q.2.elim (fun u => u hc) hq⟩)
theorem own_ok {ln c0 c1 c2 c3 : Int32} (h : Ln ln) : OKn (MK ln c0 c1 c2 c3) ↔ ((((0 < ln ∧ (¬ 0 < ln ∨ NC c0)) ∧ (¬ 1 < ln ∨ NC c1)) ∧ (¬ 2 < ln ∨ NC c2)) ∧ (¬ 3 < ln ∨ NC c3)) := by
  have key : ∀ cs : List Int32, (∀ (j : Nat) (x : Int32), cs[j]? = some x → NC x) ↔ ∀ x ∈ cs, NC x := fun cs =>
    ⟨fun q x hx => by obtain ⟨j, hj⟩ := List.mem_iff_getElem?.mp hx; exact q j x hj, fun q j x hx => q x (List.mem_of_getElem? hx)⟩
  unfold OKn
  rw [key]
  rcases h with rfl | rfl | rfl | rfl | rfl <;> simp [MK, and_assoc]
theorem own_fin {A B : Prop} {ex : Int32} {v : Option Value} (t : A ↔ B) (hex : ex = 1 ∧ B ∨ ex = 0 ∧ ¬ (B)) (r : v = some (.int 1) ∧ A ∨ v = some (.int 0) ∧ ¬ (A)) : v = some (.int ex) := by
  rw [← t] at hex
  rcases hex with ⟨rfl, q⟩ | ⟨rfl, q⟩ <;> rcases r with ⟨rfl, w⟩ | ⟨rfl, w⟩
  · rfl
  · exact absurd q w
  · exact absurd w q
  · rfl
set_option maxRecDepth 65536 in
set_option maxHeartbeats 4000000 in
theorem sg134 (hw : ∀ d ∈ tables_1, d.before a0 Z = true) (hEL : EW Z a0 [("java/lang/String", 7)]) {cs0 : Int32} (Cs : Sta Z Z.heap "java/lang/String" "COMPACT_STRINGS" "Z" (.int cs0)) (hcs : ¬ cs0 = 0) (Sad : Sta Z Z.heap "java/lang/StringUTF16" "$assertionsDisabled" "Z" (.int 1)) (Shi : Sta Z Z.heap "java/lang/StringUTF16" "HI_BYTE_SHIFT" "I" (.int 0)) (Slo : Sta Z Z.heap "java/lang/StringUTF16" "LO_BYTE_SHIFT" "I" (.int 8)) {fm : Value} (Sf : Sta Z Z.heap "jdk/internal/util/Preconditions" "SIOOBE_FORMATTER" "Ljava/util/function/BiFunction;" fm) (hfm : fm.isRef = true) (K : St Z "com/example/ermine/ermine/model/NotationIsNamePinLaw" code 13 p l e room_1 (s.setVm vm0) m args below meth c T h 6 20) (I : Inv Z [("java/lang/String", 7)] s vm0 h) (hret : meth.sig.returnType = some .boolean) (hlk : meth.locks = false) (hln : Ln ln) (hc0 : Ch c0) (hc1 : Ch c1) (hc2 : Ch c2) (hc3 : Ch c3) (F : StrC Z h so (MK ln c0 c1 c2 c3)) (hP : (ex = 1 ∧ ((((0 < ln ∧ (¬ 0 < ln ∨ NC c0)) ∧ (¬ 1 < ln ∨ NC c1)) ∧ (¬ 2 < ln ∨ NC c2)) ∧ (¬ 3 < ln ∨ NC c3)) ∨ ex = 0 ∧ ¬ (((((0 < ln ∧ (¬ 0 < ln ∨ NC c0)) ∧ (¬ 1 < ln ∨ NC c1)) ∧ (¬ 2 < ln ∨ NC c2)) ∧ (¬ 3 < ln ∨ NC c3))))) : Run p e below (FinW Z [("java/lang/String", 7)] s below 24 1152 (fun v h' => v = some (.int 1))) T (mkF m 134 #[.val (.int xn), .val (.int xa), .val (.int xb), .val (.int xc), .val (.int xd), .val (.int ln), .val (.int c0), .val (.int c1), .val (.int c2), .val (.int c3), .val (.ref so), .val (.int ex), .unset] []) := by
  refine r_aload (pc' := 136) K at_134 rfl rfl rfl ?_
  refine r_static (pc' := 139) (argsL := [.ref so]) (rest := []) (W := 0) K (n_isN l hw K.ext Cs hcs Sad Shi Slo Sf hfm (MK.len ln c0 c1 c2 c3) F (MK.ch hc0 hc1 hc2 hc3)) (hw _ (List.mem_of_getElem? (i := 31) rfl)) (hw _ (List.mem_of_getElem? (i := 32) rfl)) (hw _ (List.mem_of_getElem? (i := 33) rfl)) (hw _ (List.mem_of_getElem? (i := 34) rfl)) (by decide) pdSZ rfl rfl rfl (Nat.le_refl _) (by decide) (by decide) (by decide) (by decide) at_136 rfl ?_
  rintro v1 T1 _ K1 ⟨rfl, r1⟩
  obtain rfl : v1 = some (.int ex) := own_fin (own_ok hln) hP r1
  refine r_istore (Ls' := #[.val (.int xn), .val (.int xa), .val (.int xb), .val (.int xc), .val (.int xd), .val (.int ln), .val (.int c0), .val (.int c1), .val (.int c2), .val (.int c3), .val (.ref so), .val (.int ex), .val (.int ex)]) (pc' := 141) K1 at_139 rfl rfl ?_
  refine r_iload (pc' := 143) K1 at_141 rfl rfl ?_
  refine r_iload (pc' := 145) K1 at_143 rfl rfl ?_
  refine r_icmp (pc1 := 148) (pc2 := 152) K1 at_145 rfl (by decide) (by decide) ?_ ?_
  · intro (g1 : ¬ ex = ex)
    exact absurd rfl g1
  · intro (g1 : ex = ex)
    refine r_iconst (v := (1 : Int32)) (pc' := 149) K1 at_148 rfl (by decide) ?_
    refine r_goto (pc' := 153) K1 at_149 (by decide) (by decide) ?_
    exact w_retZ K1 I hEL hret hlk (by decide) at_153 (by decide) (by decide) rfl
set_option maxRecDepth 65536 in
set_option maxHeartbeats 4000000 in
theorem con0 (l : Launch) {Z : State} {a0 : Array Value} (hw : ∀ d ∈ tables_1, d.before a0 Z = true) {h : Heap} (hE : Ext Z.heap h) (hEL : EW Z a0 [("java/lang/String", 7)]) {cs0 : Int32} (Cs : Sta Z Z.heap "java/lang/String" "COMPACT_STRINGS" "Z" (.int cs0)) (hcs : ¬ cs0 = 0) (Sad : Sta Z Z.heap "java/lang/StringUTF16" "$assertionsDisabled" "Z" (.int 1)) (Shi : Sta Z Z.heap "java/lang/StringUTF16" "HI_BYTE_SHIFT" "I" (.int 0)) (Slo : Sta Z Z.heap "java/lang/StringUTF16" "LO_BYTE_SHIFT" "I" (.int 8)) {fm : Value} (Sf : Sta Z Z.heap "jdk/internal/util/Preconditions" "SIOOBE_FORMATTER" "Ljava/util/function/BiFunction;" fm) (hfm : fm.isRef = true) {xn xa xb xc xd : Int32} :
    ConW l x code maxLocals ret tables_1 room_1 Z [("java/lang/String", 7)] #[.int xn, .int xa, .int xb, .int xc, .int xd] h (fun v h' => v = some (.int 1)) := by
  refine con_introW (by first | exact plainFor_of_name pnLaw | decide +kernel) hE ?_
  intro p e s m below meth c T K I0 hret hlk hnm
  have K : St Z "com/example/ermine/ermine/model/NotationIsNamePinLaw" code 13 p l e room_1 (s.setVm s.vm) m #[.int xn, .int xa, .int xb, .int xc, .int xd] below meth c T h 0 0 := K
  have ef : entryFrame m #[.int xn, .int xa, .int xb, .int xc, .int xd] maxLocals = (mkF m 0 #[.val (.int xn), .val (.int xa), .val (.int xb), .val (.int xc), .val (.int xd), .unset, .unset, .unset, .unset, .unset, .unset, .unset, .unset] []) := by first | (simp [entryFrame, mkF, argsToLocals, Value.category, maxLocals]; done) | rfl
  rw [ef]
  refine sg0 hw K ?_
  intro ln c0 c1 c2 c3 T1 hln hc0 hc1 hc2 hc3 K1
  refine sg33 hw hEL Cs hcs Sad Shi Slo Sf hfm K1 I0 hc0 hc1 hc2 hc3 ?_
  intro so T2 h2 vm2 K2 I2 F
  refine sg55 K2 ?_
  intro e0 P0
  refine sg67 hw K2 P0 ?_
  intro e1 T3 K3 P1
  refine sg83 hw K3 P1 ?_
  intro e2 T4 K4 P2
  refine sg100 hw K4 P2 ?_
  intro e3 T5 K5 P3
  refine sg117 hw K5 P3 ?_
  intro e4 T6 K6 P4
  exact sg134 hw hEL Cs hcs Sad Shi Slo Sf hfm K6 I2 hret hlk hln hc0 hc1 hc2 hc3 F P4
end Own
set_option maxRecDepth 65536 in
set_option maxHeartbeats 4000000 in
theorem comes_1 {Post : Tables → Env → Array Value → State → Outcome → State → Prop} (hpost : ∀ tb e args s v u, (limb_1_1.after args s (.returned v) u = true ∧ limb_1_2.after args s (.returned v) u = true ∧ True) → FramedW s (.returned v) u (Jvm.fieldLocs frame_1_writes args s ++ Jvm.arrayLocs frame_1_arrays args s ++ Jvm.staticLocs frame_1_statics s) 24 1152 → Post tb e args s (.returned v) u) :
    ArmFor flags0 classFile x code maxLocals ret World_1 tables_1 room_1 Calls_1 rest_1 Pre_1 Post := by
  intro l hfl _ _ p e ha hc hk s m args below hf hA hF happ hP
  obtain ⟨hcalls, hrest, hpre⟩ := hP
  obtain ⟨-, -, -, hnamed, -, -, -, hat⟩ := (Spec.applies_iff hf).mp happ
  obtain ⟨hg, hn⟩ := and_e (Cond.before_iff.mp (show (Jvm.Cond.and given_1 narrow_1).before args s = true from hpre))
  obtain ⟨g0, r0⟩ := and_e hg
  obtain ⟨g1, r1⟩ := and_e r0
  obtain ⟨g2, r2⟩ := and_e r1
  obtain ⟨g3, r3⟩ := and_e r2
  obtain ⟨g4, r4⟩ := and_e r3
  have g5 := r4
  obtain ⟨w0, w1, w2, w3, w4, rfl⟩ : ∃ w0 w1 w2 w3 w4 : Value, args = #[w0, w1, w2, w3, w4] := by
    have hs : args.size = 5 := by simpa [Cond.value, given_1] using g0
    obtain ⟨L⟩ := args
    match L, hs with
    | [w0, w1, w2, w3, w4], _ => exact ⟨w0, w1, w2, w3, w4, rfl⟩
  have hw := fun d (hd : d ∈ tables_1) => atoms_spec (ws := Jvm.Cond.code x code maxLocals ret :: tables_1) hat d (List.mem_cons_of_mem _ hd)
  obtain ⟨hsets, hown0⟩ := atoms_of _ (rest_1_c_eq ▸ (show rest_1_c.before _ s = true from hrest))
  obtain ⟨i0, e0⟩ := is_v g1
  obtain rfl : w0 = (.int i0) := Option.some.inj e0
  obtain ⟨i1, e1⟩ := is_v g2
  obtain rfl : w1 = (.int i1) := Option.some.inj e1
  obtain ⟨i2, e2⟩ := is_v g3
  obtain rfl : w2 = (.int i2) := Option.some.inj e2
  obtain ⟨i3, e3⟩ := is_v g4
  obtain rfl : w3 = (.int i3) := Option.some.inj e3
  obtain ⟨i4, e4⟩ := is_v g5
  obtain rfl : w4 = (.int i4) := Option.some.inj e4
  have n5 := not_v (Cond.before_iff.mp (hsets _ (List.mem_of_getElem? (i := 2) rfl)))
  obtain ⟨i11, e10⟩ := is_v (Cond.before_iff.mp (hsets _ (List.mem_of_getElem? (i := 1) rfl)))
  have S12 : Sta s s.heap "java/lang/String" "COMPACT_STRINGS" "Z" (.int i11) := Sta.start e10 (Or.inl (hsets _ (List.mem_of_getElem? (i := 0) rfl)))
  have c17 : ¬ (i11 = (0 : Int32)) := gotF (Cond.eq_ints e10 (Term.int_eval (0))) n5
  have wl := (hw _ (List.mem_of_getElem? (i := 23) rfl))
  have hEL : EW s _ [("java/lang/String", 7)] := EW.cons wl (by simp) EW.nil
  have hC : CHv s [("java/lang/String", 7)] s.vm s.heap := CHv.start hEL (fun p hp => by rw [List.mem_singleton] at hp; subst hp; exact hcalls.1 _ (List.mem_singleton.mpr rfl)) (hsets _ (List.mem_of_getElem? (i := 2) rfl)) (hw _ (List.mem_of_getElem? (i := 24) rfl)) (hw _ (List.mem_of_getElem? (i := 7) rfl))
  have Sad : Sta s s.heap "java/lang/StringUTF16" "$assertionsDisabled" "Z" (.int 1) := Sta.start (Cond.eq_int (hsets _ (List.mem_of_getElem? (i := 12) rfl)) rfl) (Or.inl (hsets _ (List.mem_of_getElem? (i := 11) rfl)))
  have Shi : Sta s s.heap "java/lang/StringUTF16" "HI_BYTE_SHIFT" "I" (.int 0) := Sta.start (Cond.eq_int (hsets _ (List.mem_of_getElem? (i := 15) rfl)) rfl) (Or.inl (hsets _ (List.mem_of_getElem? (i := 14) rfl)))
  have Slo : Sta s s.heap "java/lang/StringUTF16" "LO_BYTE_SHIFT" "I" (.int 8) := Sta.start (Cond.eq_int (hsets _ (List.mem_of_getElem? (i := 18) rfl)) rfl) (Or.inl (hsets _ (List.mem_of_getElem? (i := 17) rfl)))
  obtain ⟨fm, e14, r15⟩ := isR_v (Cond.before_iff.mp (hsets _ (List.mem_of_getElem? (i := 8) rfl)))
  have S16 : Sta s s.heap "jdk/internal/util/Preconditions" "SIOOBE_FORMATTER" "Ljava/util/function/BiFunction;" fm := Sta.start e14 (Or.inl (hsets _ (List.mem_of_getElem? (i := 7) rfl)))
  obtain ⟨n, o, h1, h2, h3, _, L, rfl, ⟨rfl, N, -⟩, -, hq⟩ := con0 l (Z := s) hw (h := s.heap) ⟨Nat.le_refl _, fun _ _ q => q⟩ hEL S12 c17 Sad Shi Slo S16 r15 p e ha hc hk s m _ below hf ((Spec.applies_iff_loose hf).mp happ).1 ⟨rfl, State.Warmed39.refl s, rfl, hC⟩ trivial
  refine ⟨n, _, h1, h2, h3, hpost _ _ _ _ _ _ ⟨Cond.after_iff.mpr rfl, Cond.after_iff.mpr (eq_i res_at (Term.int_eval (1)) rfl), trivial⟩ ⟨hq.1, hq.2.1, hq.2.2.1, (hq.2.2.2.sift fun y hy => Or.inr (N y hy)).mono (by decide) (by decide)⟩⟩
theorem main_1_1 : Claimed_1_1 := comes_1 fun _ _ _ _ _ _ h hF => ⟨h.1, hF⟩
theorem main_1_2 : Claimed_1_2 := comes_1 fun _ _ _ _ _ _ h hF => ⟨h.2.1, hF⟩
end Jvm.Pilot.@@N@@
namespace Jvm.Pilot.@@N@@
open Jvm Jvm.ClassFile Sem Op Lib Jvm.Free Jvm.Stand Jvm.Pilot.@@N@@.Jvm.D
/-! MADE BY PROGRAM (witnessworld.py) out of the Statement's table words and the real class files: 20 classes; the members and pool entries that the words name. The judged class is class 1, her method 4. -/
namespace start1
open Jvm.ClassFile
def u (s : String) : CpInfo := .utf8 (stringToUtf16 s)
/-- a pool by its gaps: so many unusable entries, then the entry; so many at the end -/
def gap : Nat → List CpInfo → List CpInfo
  | 0, r => r
  | n + 1, r => .unusable :: gap n r
def poolList (es : List (Nat × CpInfo)) (last : Nat) : List CpInfo := es.foldr (fun e r => gap e.1 (e.2 :: r)) (gap last [])
def pool (es : List (Nat × CpInfo)) (last : Nat) : Array CpInfo := ⟨poolList es last⟩
def fileOf (pool : Array CpInfo) (this : Nat) (attrs : Array Attribute := #[]) (ms : Array MethodInfo := #[]) (fl : Nat := 33) (sup : Nat := 0) (ifs : Array Nat := #[]) (fds : Array FieldInfo := #[]) : ClassFile where
  minorVersion := 0
  majorVersion := 65
  constantPool := pool
  accessFlags := fl
  thisClass := this
  superClass := sup
  interfaces := ifs
  fields := fds
  methods := ms
  attributes := attrs
def plain (name : String) (sup : Option ClassId) : Class where
  name := name
  kind := .ordinary
  loader := none
  accessFlags := 33
  super := sup
  interfaces := #[]
  cf := none
  fields := #[]
  methods := #[]
  instanceTypes := #[]
  staticTypes := #[]
  resolved := #[]
  callSites := []
  init := .initialized
  statics := none
  mirror := none

def pool0 : Array CpInfo := pool [(5, u "<init>"), (0, u "()V"), (1, .class_ 10), (1, u "java/lang/Object")] 113

def k0c0 : Code := { maxStack := 0, maxLocals := 1, code := object_method_1_code, exceptionTable := #[], attributes := #[] }
def k0m0 : Method := { name := "<init>", desc := "()V", sig := { parameters := [], returnType := none }, accessFlags := 1, code := some k0c0 }
/-- java/lang/Object -/
def k0 : Class := { plain "java/lang/Object" none with
  accessFlags := 33
  interfaces := #[]
  cf := some (fileOf pool0 8 #[] #[{ accessFlags := 1, nameIndex := 5, descriptorIndex := 6, attributes := #[] }] 33 0 #[] #[])
  fields := #[]
  methods := #[k0m0]
  instanceTypes := #[]
  staticTypes := #[]
  resolved := Array.replicate 124 none
  statics := none }

def pool1 : Array CpInfo := pool [(2, .class_ 4), (1, u "java/lang/Object"), (0, u "<init>"), (0, u "()V"), (0, .integer 65535), (0, .integer 2147483647), (0, .methodref 10 11), (0, .class_ 12), (0, .nameAndType 13 14), (0, u "com/example/ermine/ermine/model/NotationIsNamePinLaw"), (0, u "draw"), (0, u "(I)C"), (0, .class_ 16), (0, u "java/lang/String"), (0, .methodref 10 18), (0, .nameAndType 19 20), (0, u "make"), (0, u "(ICCCC)[C"), (0, .methodref 15 22), (0, .nameAndType 5 23), (0, u "([C)V"), (0, .methodref 10 25), (0, .nameAndType 26 27), (0, u "nameChar"), (0, u "(C)Z"), (0, .methodref 29 30), (0, .class_ 31), (0, .nameAndType 32 33), (0, u "com/example/ermine/ermine/model/Notation"), (0, u "isName"), (0, u "(Ljava/lang/String;)Z"), (3, u "law"), (0, u "(IIIII)Z")] 2

def k1m0 : Method := { name := "<init>", desc := "()V", sig := { parameters := [], returnType := none }, accessFlags := 2, code := none }
def k1c1 : Code := { maxStack := 2, maxLocals := 1, code := method_2_code, exceptionTable := #[], attributes := #[] }
def k1m1 : Method := { name := "draw", desc := "(I)C", sig := { parameters := [.int], returnType := some .char }, accessFlags := 10, code := some k1c1 }
def k1c2 : Code := { maxStack := 2, maxLocals := 1, code := method_3_code, exceptionTable := #[], attributes := #[] }
def k1m2 : Method := { name := "nameChar", desc := "(C)Z", sig := { parameters := [.char], returnType := some .boolean }, accessFlags := 10, code := some k1c2 }
def k1c3 : Code := { maxStack := 4, maxLocals := 5, code := method_4_code, exceptionTable := #[], attributes := #[] }
def k1m3 : Method := { name := "make", desc := "(ICCCC)[C", sig := { parameters := [.int, .char, .char, .char, .char], returnType := some (.array .char) }, accessFlags := 10, code := some k1c3 }
def k1c4 : Code := { maxStack := 7, maxLocals := 13, code := code, exceptionTable := #[], attributes := #[] }
def k1m4 : Method := { name := "law", desc := "(IIIII)Z", sig := { parameters := [.int, .int, .int, .int, .int], returnType := some .boolean }, accessFlags := 9, code := some k1c4 }
/-- com/example/ermine/ermine/model/NotationIsNamePinLaw -/
def k1 : Class := { plain "com/example/ermine/ermine/model/NotationIsNamePinLaw" (some 0) with
  accessFlags := 49
  interfaces := #[]
  cf := some (fileOf pool1 10 #[] #[{ accessFlags := 2, nameIndex := 5, descriptorIndex := 6, attributes := #[] }, { accessFlags := 10, nameIndex := 13, descriptorIndex := 14, attributes := #[] }, { accessFlags := 10, nameIndex := 26, descriptorIndex := 27, attributes := #[] }, { accessFlags := 10, nameIndex := 19, descriptorIndex := 20, attributes := #[] }, { accessFlags := 9, nameIndex := 37, descriptorIndex := 38, attributes := #[] }] 49 2 #[] #[])
  fields := #[]
  methods := #[k1m0, k1m1, k1m2, k1m3, k1m4]
  instanceTypes := #[]
  staticTypes := #[]
  resolved := Array.replicate 41 none
  statics := none }

def pool2 : Array CpInfo := pool [(1, .class_ 2), (0, u "java/io/Serializable"), (0, .class_ 4), (0, u "java/lang/Object")] 2

/-- java/io/Serializable -/
def k2 : Class := { plain "java/io/Serializable" (some 0) with
  accessFlags := 1537
  interfaces := #[]
  cf := some (fileOf pool2 1 #[] #[] 1537 3 #[] #[])
  fields := #[]
  methods := #[]
  instanceTypes := #[]
  staticTypes := #[]
  resolved := Array.replicate 7 none
  statics := none }

def pool3 : Array CpInfo := pool [(1, .class_ 2), (0, u "java/lang/Comparable"), (0, .class_ 4), (0, u "java/lang/Object")] 7

/-- java/lang/Comparable -/
def k3 : Class := { plain "java/lang/Comparable" (some 0) with
  accessFlags := 1537
  interfaces := #[]
  cf := some (fileOf pool3 1 #[] #[] 1537 3 #[] #[])
  fields := #[]
  methods := #[]
  instanceTypes := #[]
  staticTypes := #[]
  resolved := Array.replicate 12 none
  statics := none }

def pool4 : Array CpInfo := pool [(2, .class_ 4), (1, u "java/lang/CharSequence"), (42, .class_ 48), (0, u "java/lang/CharSequence$1CodePointIterator"), (10, .class_ 60), (0, u "java/lang/CharSequence$1CharIterator"), (5, .class_ 67), (0, u "java/lang/Object")] 63

/-- java/lang/CharSequence -/
def k4 : Class := { plain "java/lang/CharSequence" (some 0) with
  accessFlags := 1537
  interfaces := #[]
  cf := some (fileOf pool4 2 #[.nestMembers #[47, 59]] #[] 1537 66 #[] #[])
  fields := #[]
  methods := #[]
  instanceTypes := #[]
  staticTypes := #[]
  resolved := Array.replicate 131 none
  statics := none }

def pool5 : Array CpInfo := pool [(1, .class_ 2), (0, u "java/lang/constant/Constable"), (0, .class_ 4), (0, u "java/lang/Object")] 6

/-- java/lang/constant/Constable -/
def k5 : Class := { plain "java/lang/constant/Constable" (some 0) with
  accessFlags := 1537
  interfaces := #[]
  cf := some (fileOf pool5 1 #[] #[] 1537 3 #[] #[])
  fields := #[]
  methods := #[]
  instanceTypes := #[]
  staticTypes := #[]
  resolved := Array.replicate 11 none
  statics := none }

def pool6 : Array CpInfo := pool [(1, .class_ 2), (0, u "java/lang/constant/ConstantDesc"), (0, .class_ 4), (0, u "java/lang/Object")] 32

/-- java/lang/constant/ConstantDesc -/
def k6 : Class := { plain "java/lang/constant/ConstantDesc" (some 0) with
  accessFlags := 1537
  interfaces := #[]
  cf := some (fileOf pool6 1 #[] #[] 1537 3 #[] #[])
  fields := #[]
  methods := #[]
  instanceTypes := #[]
  staticTypes := #[]
  resolved := Array.replicate 37 none
  statics := none }

def pool7 : Array CpInfo := pool [(1, .methodref 2 3), (0, .class_ 4), (0, .nameAndType 5 6), (0, u "java/lang/Object"), (0, u "<init>"), (0, u "()V"), (0, .string 8), (0, u ""), (0, .fieldref 10 11), (0, .class_ 12), (0, .nameAndType 13 14), (0, u "java/lang/String"), (0, u "value"), (0, u "[B"), (0, .fieldref 10 16), (0, .nameAndType 17 18), (0, u "coder"), (0, u "B"), (2, u "hash"), (0, u "I"), (2, u "hashIsZero"), (0, u "Z"), (0, .methodref 10 28), (0, .nameAndType 5 29), (0, u "([CIILjava/lang/Void;)V"), (8, .fieldref 10 39), (0, .nameAndType 40 26), (0, u "COMPACT_STRINGS"), (1, .class_ 44), (1, u "java/lang/StringUTF16"), (0, u "compress"), (1, .methodref 42 48), (0, .nameAndType 49 50), (0, u "coderFromArrayLen"), (0, u "([BI)B"), (56, .class_ 109), (1, u "java/lang/StringLatin1"), (32, u "()Z"), (34, .methodref 42 178), (0, .nameAndType 45 179), (0, u "([CII)[B"), (154, u "()I"), (0, .methodref 10 336), (0, .nameAndType 17 337), (0, u "()B"), (25, u "([BI)C"), (27, u "(II)V"), (35, u "(I)C"), (64, .methodref 10 493), (0, .nameAndType 494 142), (0, u "isLatin1"), (0, .methodref 107 496), (0, .nameAndType 497 363), (0, u "charAt"), (0, .methodref 42 496), (2, u "checkIndex"), (5, u "length"), (67, .class_ 576), (0, u "java/lang/CharSequence"), (22, u "CASE_INSENSITIVE_ORDER"), (0, u "Ljava/util/Comparator;"), (91, u "isEmpty"), (317, u "([C)V"), (42, .fieldref 1054 1055), (0, .class_ 1056), (0, .nameAndType 1057 1058), (0, u "jdk/internal/util/Preconditions"), (0, u "SIOOBE_FORMATTER"), (0, u "Ljava/util/function/BiFunction;"), (0, .methodref 1054 1060), (0, .nameAndType 501 1061), (0, u "(IILjava/util/function/BiFunction;)I"), (39, u "serialPersistentFields"), (0, u "[Ljava/io/ObjectStreamField;"), (0, .class_ 1104), (0, u "java/lang/String$CaseInsensitiveComparator"), (1, .class_ 1107), (0, u "java/io/Serializable"), (0, .class_ 1109), (0, u "java/lang/Comparable"), (0, .class_ 1111), (0, u "java/lang/constant/Constable"), (0, .class_ 1113), (0, u "java/lang/constant/ConstantDesc"), (2, u "serialVersionUID"), (0, u "J"), (3, u "REPL"), (0, u "C"), (2, u "LATIN1"), (1, u "UTF16")] 323

def k7m0 : Method := { name := "<init>", desc := "()V", sig := { parameters := [], returnType := none }, accessFlags := 1, code := none }
def k7c1 : Code := { maxStack := 5, maxLocals := 2, code := jdk_42_method_3_code, exceptionTable := #[], attributes := #[] }
def k7m1 : Method := { name := "<init>", desc := "([C)V", sig := { parameters := [(.array .char)], returnType := none }, accessFlags := 1, code := some k7c1 }
def k7c2 : Code := { maxStack := 2, maxLocals := 1, code := jdk_42_method_54_code, exceptionTable := #[], attributes := #[] }
def k7m2 : Method := { name := "length", desc := "()I", sig := { parameters := [], returnType := some .int }, accessFlags := 1, code := some k7c2 }
def k7c3 : Code := { maxStack := 1, maxLocals := 1, code := jdk_42_method_55_code, exceptionTable := #[], attributes := #[] }
def k7m3 : Method := { name := "isEmpty", desc := "()Z", sig := { parameters := [], returnType := some .boolean }, accessFlags := 1, code := some k7c3 }
def k7c4 : Code := { maxStack := 2, maxLocals := 2, code := jdk_42_method_56_code, exceptionTable := #[], attributes := #[] }
def k7m4 : Method := { name := "charAt", desc := "(I)C", sig := { parameters := [.int], returnType := some .char }, accessFlags := 1, code := some k7c4 }
def k7c5 : Code := { maxStack := 4, maxLocals := 6, code := jdk_42_method_149_code, exceptionTable := #[], attributes := #[] }
def k7m5 : Method := { name := "<init>", desc := "([CIILjava/lang/Void;)V", sig := { parameters := [(.array .char), .int, .int, (.object "java/lang/Void")], returnType := none }, accessFlags := 2, code := some k7c5 }
def k7c6 : Code := { maxStack := 1, maxLocals := 1, code := jdk_42_method_152_code, exceptionTable := #[], attributes := #[] }
def k7m6 : Method := { name := "coder", desc := "()B", sig := { parameters := [], returnType := some .byte }, accessFlags := 0, code := some k7c6 }
def k7c7 : Code := { maxStack := 1, maxLocals := 1, code := jdk_42_method_154_code, exceptionTable := #[], attributes := #[] }
def k7m7 : Method := { name := "isLatin1", desc := "()Z", sig := { parameters := [], returnType := some .boolean }, accessFlags := 0, code := some k7c7 }
def k7c8 : Code := { maxStack := 3, maxLocals := 2, code := jdk_42_method_155_code, exceptionTable := #[], attributes := #[] }
def k7m8 : Method := { name := "checkIndex", desc := "(II)V", sig := { parameters := [.int, .int], returnType := none }, accessFlags := 8, code := some k7c8 }
/-- java/lang/String -/
def k7 : Class := { plain "java/lang/String" (some 0) with
  accessFlags := 49
  interfaces := #[2, 3, 4, 5, 6]
  cf := some (fileOf pool7 10 #[.nestMembers #[1103]] #[{ accessFlags := 1, nameIndex := 5, descriptorIndex := 6, attributes := #[] }, { accessFlags := 1, nameIndex := 5, descriptorIndex := 1010, attributes := #[] }, { accessFlags := 1, nameIndex := 507, descriptorIndex := 334, attributes := #[] }, { accessFlags := 1, nameIndex := 692, descriptorIndex := 142, attributes := #[] }, { accessFlags := 1, nameIndex := 497, descriptorIndex := 427, attributes := #[] }, { accessFlags := 2, nameIndex := 5, descriptorIndex := 29, attributes := #[] }, { accessFlags := 0, nameIndex := 17, descriptorIndex := 337, attributes := #[] }, { accessFlags := 0, nameIndex := 494, descriptorIndex := 142, attributes := #[] }, { accessFlags := 8, nameIndex := 501, descriptorIndex := 391, attributes := #[] }] 49 2 #[1106, 1108, 575, 1110, 1112] #[{ accessFlags := 18, nameIndex := 13, descriptorIndex := 14, attributes := #[] }, { accessFlags := 18, nameIndex := 17, descriptorIndex := 18, attributes := #[] }, { accessFlags := 2, nameIndex := 21, descriptorIndex := 22, attributes := #[] }, { accessFlags := 2, nameIndex := 25, descriptorIndex := 26, attributes := #[] }, { accessFlags := 26, nameIndex := 1116, descriptorIndex := 1117, attributes := #[] }, { accessFlags := 24, nameIndex := 40, descriptorIndex := 26, attributes := #[] }, { accessFlags := 26, nameIndex := 1101, descriptorIndex := 1102, attributes := #[] }, { accessFlags := 26, nameIndex := 1121, descriptorIndex := 1122, attributes := #[] }, { accessFlags := 25, nameIndex := 599, descriptorIndex := 600, attributes := #[] }, { accessFlags := 24, nameIndex := 1125, descriptorIndex := 18, attributes := #[] }, { accessFlags := 24, nameIndex := 1127, descriptorIndex := 18, attributes := #[] }])
  fields := #[{ name := "value", type := (.array .byte), accessFlags := 18, slot := 0, constantValue := 0 }, { name := "coder", type := .byte, accessFlags := 18, slot := 1, constantValue := 0 }, { name := "hash", type := .int, accessFlags := 2, slot := 2, constantValue := 0 }, { name := "hashIsZero", type := .boolean, accessFlags := 2, slot := 3, constantValue := 0 }, { name := "serialVersionUID", type := .long, accessFlags := 26, slot := 0, constantValue := 0 }, { name := "COMPACT_STRINGS", type := .boolean, accessFlags := 24, slot := 1, constantValue := 0 }, { name := "serialPersistentFields", type := (.array (.object "java/io/ObjectStreamField")), accessFlags := 26, slot := 2, constantValue := 0 }, { name := "REPL", type := .char, accessFlags := 26, slot := 3, constantValue := 0 }, { name := "CASE_INSENSITIVE_ORDER", type := (.object "java/util/Comparator"), accessFlags := 25, slot := 4, constantValue := 0 }, { name := "LATIN1", type := .byte, accessFlags := 24, slot := 5, constantValue := 0 }, { name := "UTF16", type := .byte, accessFlags := 24, slot := 6, constantValue := 0 }]
  methods := #[k7m0, k7m1, k7m2, k7m3, k7m4, k7m5, k7m6, k7m7, k7m8]
  instanceTypes := #[(.array .byte), .byte, .int, .boolean]
  staticTypes := #[.long, .boolean, (.array (.object "java/io/ObjectStreamField")), .char, (.object "java/util/Comparator"), .byte, .byte]
  resolved := Array.replicate 1451 none
  statics := some 0 }

def pool8 : Array CpInfo := pool [(2, .class_ 4), (1, u "java/lang/Object"), (0, u "<init>"), (0, u "()V"), (1, .class_ 10), (1, u "com/example/ermine/ermine/model/Notation"), (0, u "OUTER_BLANKS"), (0, u "Ljava/util/regex/Pattern;"), (19, u "FIELD"), (3, u "()Z"), (10, .methodref 48 49), (0, .class_ 50), (0, .nameAndType 51 36), (0, u "java/lang/String"), (0, u "isEmpty"), (0, .methodref 48 53), (0, .nameAndType 54 55), (0, u "length"), (0, u "()I"), (0, .methodref 48 57), (0, .nameAndType 58 59), (0, u "charAt"), (0, u "(I)C"), (38, u "isName"), (0, u "(Ljava/lang/String;)Z")] 22

def k8m0 : Method := { name := "<init>", desc := "()V", sig := { parameters := [], returnType := none }, accessFlags := 2, code := none }
def k8c1 : Code := { maxStack := 2, maxLocals := 4, code := prog_6_method_5_code, exceptionTable := #[], attributes := #[] }
def k8m1 : Method := { name := "isName", desc := "(Ljava/lang/String;)Z", sig := { parameters := [(.object "java/lang/String")], returnType := some .boolean }, accessFlags := 8, code := some k8c1 }
/-- com/example/ermine/ermine/model/Notation -/
def k8 : Class := { plain "com/example/ermine/ermine/model/Notation" (some 0) with
  accessFlags := 32
  interfaces := #[]
  cf := some (fileOf pool8 8 #[] #[{ accessFlags := 2, nameIndex := 5, descriptorIndex := 6, attributes := #[] }, { accessFlags := 8, nameIndex := 98, descriptorIndex := 99, attributes := #[] }] 32 2 #[] #[{ accessFlags := 26, nameIndex := 32, descriptorIndex := 12, attributes := #[] }, { accessFlags := 26, nameIndex := 11, descriptorIndex := 12, attributes := #[] }])
  fields := #[{ name := "FIELD", type := (.object "java/util/regex/Pattern"), accessFlags := 26, slot := 0, constantValue := 0 }, { name := "OUTER_BLANKS", type := (.object "java/util/regex/Pattern"), accessFlags := 26, slot := 1, constantValue := 0 }]
  methods := #[k8m0, k8m1]
  instanceTypes := #[]
  staticTypes := #[(.object "java/util/regex/Pattern"), (.object "java/util/regex/Pattern")]
  resolved := Array.replicate 122 none
  statics := none }

def pool9 : Array CpInfo := pool [(3, .class_ 4), (0, u "java/lang/String"), (1, .class_ 8), (1, u "java/lang/Object"), (0, u "<init>"), (0, u "()V"), (0, .methodref 12 13), (0, .class_ 14), (0, .nameAndType 15 16), (0, u "java/lang/StringUTF16"), (0, u "newBytesLength"), (0, u "(I)I"), (3, .integer 1073741823), (23, .fieldref 12 45), (0, .nameAndType 46 47), (0, u "$assertionsDisabled"), (0, u "Z"), (0, .methodref 12 49), (0, .nameAndType 50 51), (0, u "length"), (0, u "([B)I"), (7, .fieldref 12 60), (0, .nameAndType 61 62), (0, u "HI_BYTE_SHIFT"), (0, u "I"), (0, .fieldref 12 64), (0, .nameAndType 65 62), (0, u "LO_BYTE_SHIFT"), (1, .methodref 12 68), (0, .nameAndType 69 70), (0, u "checkIndex"), (0, u "(I[B)V"), (0, .methodref 12 72), (0, .nameAndType 73 74), (0, u "getChar"), (0, u "([BI)C"), (32, .methodref 12 108), (0, .nameAndType 109 110), (0, u "newBytesFor"), (0, u "(I)[B"), (0, .methodref 12 112), (0, .nameAndType 113 114), (0, u "putChar"), (0, u "([BII)V"), (0, .methodref 12 116), (0, .nameAndType 117 118), (0, u "compress"), (0, u "([CI[BII)I"), (0, .methodref 12 120), (0, .nameAndType 121 122), (0, u "toBytes"), (0, u "([CII)[B"), (138, u "coderFromArrayLen"), (0, u "([BI)B"), (106, .class_ 371), (1, u "java/lang/StringUTF16$LinesSpliterator"), (20, u "charAt"), (21, .methodref 3 415), (0, .nameAndType 69 416), (0, u "(II)V"), (13, u "MAX_LENGTH"), (196, .class_ 628), (0, u "java/lang/StringUTF16$CodePointsSpliterator"), (0, .class_ 630), (0, u "java/lang/StringUTF16$CharsSpliterator")] 4

def k9m0 : Method := { name := "<init>", desc := "()V", sig := { parameters := [], returnType := none }, accessFlags := 0, code := none }
def k9c1 : Code := { maxStack := 1, maxLocals := 1, code := jdk_52_method_2_code, exceptionTable := #[], attributes := #[] }
def k9m1 : Method := { name := "newBytesFor", desc := "(I)[B", sig := { parameters := [.int], returnType := some (.array .byte) }, accessFlags := 9, code := some k9c1 }
def k9c2 : Code := { maxStack := 4, maxLocals := 1, code := jdk_52_method_3_code, exceptionTable := #[], attributes := #[] }
def k9m2 : Method := { name := "newBytesLength", desc := "(I)I", sig := { parameters := [.int], returnType := some .int }, accessFlags := 9, code := some k9c2 }
def k9c3 : Code := { maxStack := 4, maxLocals := 3, code := jdk_52_method_4_code, exceptionTable := #[], attributes := #[] }
def k9m3 : Method := { name := "putChar", desc := "([BII)V", sig := { parameters := [(.array .byte), .int, .int], returnType := none }, accessFlags := 8, code := some k9c3 }
def k9c4 : Code := { maxStack := 3, maxLocals := 2, code := jdk_52_method_5_code, exceptionTable := #[], attributes := #[] }
def k9m4 : Method := { name := "getChar", desc := "([BI)C", sig := { parameters := [(.array .byte), .int], returnType := some .char }, accessFlags := 8, code := some k9c4 }
def k9c5 : Code := { maxStack := 2, maxLocals := 1, code := jdk_52_method_6_code, exceptionTable := #[], attributes := #[] }
def k9m5 : Method := { name := "length", desc := "([B)I", sig := { parameters := [(.array .byte)], returnType := some .int }, accessFlags := 9, code := some k9c5 }
def k9c6 : Code := { maxStack := 4, maxLocals := 5, code := jdk_52_method_14_code, exceptionTable := #[], attributes := #[] }
def k9m6 : Method := { name := "toBytes", desc := "([CII)[B", sig := { parameters := [(.array .char), .int, .int], returnType := some (.array .byte) }, accessFlags := 9, code := some k9c6 }
def k9c7 : Code := { maxStack := 2, maxLocals := 2, code := jdk_52_method_15_code, exceptionTable := #[], attributes := #[] }
def k9m7 : Method := { name := "coderFromArrayLen", desc := "([BI)B", sig := { parameters := [(.array .byte), .int], returnType := some .byte }, accessFlags := 8, code := some k9c7 }
def k9c8 : Code := { maxStack := 5, maxLocals := 6, code := jdk_52_method_16_code, exceptionTable := #[], attributes := #[] }
def k9m8 : Method := { name := "compress", desc := "([CII)[B", sig := { parameters := [(.array .char), .int, .int], returnType := some (.array .byte) }, accessFlags := 9, code := some k9c8 }
def k9c9 : Code := { maxStack := 3, maxLocals := 7, code := jdk_52_method_21_code, exceptionTable := #[], attributes := #[] }
def k9m9 : Method := { name := "compress", desc := "([CI[BII)I", sig := { parameters := [(.array .char), .int, (.array .byte), .int, .int], returnType := some .int }, accessFlags := 9, code := some k9c9 }
def k9c10 : Code := { maxStack := 2, maxLocals := 2, code := jdk_52_method_83_code, exceptionTable := #[], attributes := #[] }
def k9m10 : Method := { name := "charAt", desc := "([BI)C", sig := { parameters := [(.array .byte), .int], returnType := some .char }, accessFlags := 9, code := some k9c10 }
def k9c11 : Code := { maxStack := 2, maxLocals := 2, code := jdk_52_method_91_code, exceptionTable := #[], attributes := #[] }
def k9m11 : Method := { name := "checkIndex", desc := "(I[B)V", sig := { parameters := [.int, (.array .byte)], returnType := none }, accessFlags := 9, code := some k9c11 }
/-- java/lang/StringUTF16 -/
def k9 : Class := { plain "java/lang/StringUTF16" (some 0) with
  accessFlags := 48
  interfaces := #[]
  cf := some (fileOf pool9 12 #[.nestMembers #[627, 629, 369]] #[{ accessFlags := 0, nameIndex := 9, descriptorIndex := 10, attributes := #[] }, { accessFlags := 9, nameIndex := 109, descriptorIndex := 110, attributes := #[] }, { accessFlags := 9, nameIndex := 15, descriptorIndex := 16, attributes := #[] }, { accessFlags := 8, nameIndex := 113, descriptorIndex := 114, attributes := #[] }, { accessFlags := 8, nameIndex := 73, descriptorIndex := 74, attributes := #[] }, { accessFlags := 9, nameIndex := 50, descriptorIndex := 51, attributes := #[] }, { accessFlags := 9, nameIndex := 121, descriptorIndex := 122, attributes := #[] }, { accessFlags := 8, nameIndex := 261, descriptorIndex := 262, attributes := #[] }, { accessFlags := 9, nameIndex := 117, descriptorIndex := 122, attributes := #[] }, { accessFlags := 9, nameIndex := 117, descriptorIndex := 118, attributes := #[] }, { accessFlags := 9, nameIndex := 392, descriptorIndex := 74, attributes := #[] }, { accessFlags := 9, nameIndex := 69, descriptorIndex := 70, attributes := #[] }] 48 6 #[] #[{ accessFlags := 26, nameIndex := 61, descriptorIndex := 62, attributes := #[] }, { accessFlags := 26, nameIndex := 65, descriptorIndex := 62, attributes := #[] }, { accessFlags := 24, nameIndex := 430, descriptorIndex := 62, attributes := #[] }, { accessFlags := 4120, nameIndex := 46, descriptorIndex := 47, attributes := #[] }])
  fields := #[{ name := "HI_BYTE_SHIFT", type := .int, accessFlags := 26, slot := 0, constantValue := 0 }, { name := "LO_BYTE_SHIFT", type := .int, accessFlags := 26, slot := 1, constantValue := 0 }, { name := "MAX_LENGTH", type := .int, accessFlags := 24, slot := 2, constantValue := 0 }, { name := "$assertionsDisabled", type := .boolean, accessFlags := 4120, slot := 3, constantValue := 0 }]
  methods := #[k9m0, k9m1, k9m2, k9m3, k9m4, k9m5, k9m6, k9m7, k9m8, k9m9, k9m10, k9m11]
  instanceTypes := #[]
  staticTypes := #[.int, .int, .int, .boolean]
  resolved := Array.replicate 635 none
  statics := some 1 }

def pool10 : Array CpInfo := pool [(1, .class_ 2), (0, u "java/lang/String"), (1, .class_ 6), (1, u "java/lang/Object"), (0, u "<init>"), (0, u "()V"), (0, .methodref 1 10), (0, .nameAndType 11 12), (0, u "checkIndex"), (0, u "(II)V"), (1, .class_ 16), (1, u "java/lang/StringLatin1"), (36, u "([BI)C"), (67, u "$assertionsDisabled"), (0, u "Z"), (98, .class_ 223), (1, u "java/lang/StringLatin1$LinesSpliterator"), (28, u "charAt"), (137, .class_ 391), (0, u "java/lang/StringLatin1$CharsSpliterator")] 3

def k10m0 : Method := { name := "<init>", desc := "()V", sig := { parameters := [], returnType := none }, accessFlags := 0, code := none }
def k10c1 : Code := { maxStack := 2, maxLocals := 2, code := jdk_43_method_2_code, exceptionTable := #[], attributes := #[] }
def k10m1 : Method := { name := "charAt", desc := "([BI)C", sig := { parameters := [(.array .byte), .int], returnType := some .char }, accessFlags := 9, code := some k10c1 }
/-- java/lang/StringLatin1 -/
def k10 : Class := { plain "java/lang/StringLatin1" (some 0) with
  accessFlags := 48
  interfaces := #[]
  cf := some (fileOf pool10 14 #[.nestMembers #[390, 221]] #[{ accessFlags := 0, nameIndex := 7, descriptorIndex := 8, attributes := #[] }, { accessFlags := 9, nameIndex := 252, descriptorIndex := 53, attributes := #[] }] 48 4 #[] #[{ accessFlags := 4120, nameIndex := 121, descriptorIndex := 122, attributes := #[] }])
  fields := #[{ name := "$assertionsDisabled", type := .boolean, accessFlags := 4120, slot := 0, constantValue := 0 }]
  methods := #[k10m0, k10m1]
  instanceTypes := #[]
  staticTypes := #[.boolean]
  resolved := Array.replicate 395 none
  statics := none }

def pool11 : Array CpInfo := pool [(2, .class_ 4), (1, u "java/lang/Object"), (0, u "<init>"), (0, u "()V"), (17, .class_ 26), (1, u "jdk/internal/util/Preconditions"), (6, u "checkIndex"), (21, .class_ 56), (0, u "jdk/internal/util/Preconditions$4"), (57, .class_ 115), (0, u "jdk/internal/util/Preconditions$1"), (7, u "SIOOBE_FORMATTER"), (0, u "Ljava/util/function/BiFunction;"), (0, .class_ 126), (0, u "jdk/internal/util/Preconditions$2"), (3, u "AIOOBE_FORMATTER"), (0, .class_ 132), (0, u "jdk/internal/util/Preconditions$3"), (3, u "IOOBE_FORMATTER"), (41, u "(IILjava/util/function/BiFunction;)I")] 15

def k11m0 : Method := { name := "<init>", desc := "()V", sig := { parameters := [], returnType := none }, accessFlags := 1, code := none }
def k11c1 : Code := { maxStack := 3, maxLocals := 3, code := jdk_41_method_11_code, exceptionTable := #[], attributes := #[] }
def k11m1 : Method := { name := "checkIndex", desc := "(IILjava/util/function/BiFunction;)I", sig := { parameters := [.int, .int, (.object "java/util/function/BiFunction")], returnType := some .int }, accessFlags := 9, code := some k11c1 }
/-- jdk/internal/util/Preconditions -/
def k11 : Class := { plain "jdk/internal/util/Preconditions" (some 0) with
  accessFlags := 33
  interfaces := #[]
  cf := some (fileOf pool11 24 #[.nestMembers #[55, 131, 125, 114]] #[{ accessFlags := 1, nameIndex := 5, descriptorIndex := 6, attributes := #[] }, { accessFlags := 9, nameIndex := 33, descriptorIndex := 178, attributes := #[] }] 33 2 #[] #[{ accessFlags := 25, nameIndex := 123, descriptorIndex := 124, attributes := #[] }, { accessFlags := 25, nameIndex := 130, descriptorIndex := 124, attributes := #[] }, { accessFlags := 25, nameIndex := 136, descriptorIndex := 124, attributes := #[] }])
  fields := #[{ name := "SIOOBE_FORMATTER", type := (.object "java/util/function/BiFunction"), accessFlags := 25, slot := 0, constantValue := 0 }, { name := "AIOOBE_FORMATTER", type := (.object "java/util/function/BiFunction"), accessFlags := 25, slot := 1, constantValue := 0 }, { name := "IOOBE_FORMATTER", type := (.object "java/util/function/BiFunction"), accessFlags := 25, slot := 2, constantValue := 0 }]
  methods := #[k11m0, k11m1]
  instanceTypes := #[]
  staticTypes := #[(.object "java/util/function/BiFunction"), (.object "java/util/function/BiFunction"), (.object "java/util/function/BiFunction")]
  resolved := Array.replicate 194 none
  statics := some 2 }

def pool12 : Array CpInfo := pool [(9, u "<init>"), (6, .class_ 18), (1, u "java/lang/Object"), (0, u "()V"), (1, .class_ 23), (1, u "jdk/internal/util/ArraysSupport"), (0, u "LOG2_ARRAY_LONG_INDEX_SCALE"), (0, u "I"), (2, u "U"), (0, u "Ljdk/internal/misc/Unsafe;"), (8, u "BIG_ENDIAN"), (0, u "Z"), (8, u "LOG2_BYTE_BIT_SIZE"), (4, u "LOG2_ARRAY_INT_INDEX_SCALE"), (54, u "JLA"), (0, u "Ljdk/internal/access/JavaLangAccess;"), (11, u "LOG2_ARRAY_BOOLEAN_INDEX_SCALE"), (9, u "LOG2_ARRAY_BYTE_INDEX_SCALE"), (5, u "LOG2_ARRAY_CHAR_INDEX_SCALE"), (5, u "LOG2_ARRAY_SHORT_INDEX_SCALE"), (18, u "LOG2_ARRAY_FLOAT_INDEX_SCALE"), (24, u "LOG2_ARRAY_DOUBLE_INDEX_SCALE"), (89, u "T_BOOLEAN"), (2, u "T_CHAR"), (1, u "T_FLOAT"), (1, u "T_DOUBLE"), (1, u "T_BYTE"), (1, u "T_SHORT"), (1, u "T_INT"), (1, u "T_LONG"), (1, u "SOFT_MAX_ARRAY_LENGTH")] 83

def k12m0 : Method := { name := "<init>", desc := "()V", sig := { parameters := [], returnType := none }, accessFlags := 2, code := none }
/-- jdk/internal/util/ArraysSupport -/
def k12 : Class := { plain "jdk/internal/util/ArraysSupport" (some 0) with
  accessFlags := 33
  interfaces := #[]
  cf := some (fileOf pool12 21 #[] #[{ accessFlags := 2, nameIndex := 9, descriptorIndex := 19, attributes := #[] }] 33 16 #[] #[{ accessFlags := 24, nameIndex := 28, descriptorIndex := 29, attributes := #[] }, { accessFlags := 26, nameIndex := 38, descriptorIndex := 39, attributes := #[] }, { accessFlags := 25, nameIndex := 121, descriptorIndex := 25, attributes := #[] }, { accessFlags := 25, nameIndex := 131, descriptorIndex := 25, attributes := #[] }, { accessFlags := 25, nameIndex := 137, descriptorIndex := 25, attributes := #[] }, { accessFlags := 25, nameIndex := 143, descriptorIndex := 25, attributes := #[] }, { accessFlags := 25, nameIndex := 53, descriptorIndex := 25, attributes := #[] }, { accessFlags := 25, nameIndex := 24, descriptorIndex := 25, attributes := #[] }, { accessFlags := 25, nameIndex := 162, descriptorIndex := 25, attributes := #[] }, { accessFlags := 25, nameIndex := 187, descriptorIndex := 25, attributes := #[] }, { accessFlags := 26, nameIndex := 48, descriptorIndex := 25, attributes := #[] }, { accessFlags := 25, nameIndex := 277, descriptorIndex := 25, attributes := #[] }, { accessFlags := 25, nameIndex := 280, descriptorIndex := 25, attributes := #[] }, { accessFlags := 25, nameIndex := 282, descriptorIndex := 25, attributes := #[] }, { accessFlags := 25, nameIndex := 284, descriptorIndex := 25, attributes := #[] }, { accessFlags := 25, nameIndex := 286, descriptorIndex := 25, attributes := #[] }, { accessFlags := 25, nameIndex := 288, descriptorIndex := 25, attributes := #[] }, { accessFlags := 25, nameIndex := 290, descriptorIndex := 25, attributes := #[] }, { accessFlags := 25, nameIndex := 292, descriptorIndex := 25, attributes := #[] }, { accessFlags := 26, nameIndex := 108, descriptorIndex := 109, attributes := #[] }, { accessFlags := 25, nameIndex := 294, descriptorIndex := 25, attributes := #[] }])
  fields := #[{ name := "U", type := (.object "jdk/internal/misc/Unsafe"), accessFlags := 24, slot := 0, constantValue := 0 }, { name := "BIG_ENDIAN", type := .boolean, accessFlags := 26, slot := 1, constantValue := 0 }, { name := "LOG2_ARRAY_BOOLEAN_INDEX_SCALE", type := .int, accessFlags := 25, slot := 2, constantValue := 0 }, { name := "LOG2_ARRAY_BYTE_INDEX_SCALE", type := .int, accessFlags := 25, slot := 3, constantValue := 0 }, { name := "LOG2_ARRAY_CHAR_INDEX_SCALE", type := .int, accessFlags := 25, slot := 4, constantValue := 0 }, { name := "LOG2_ARRAY_SHORT_INDEX_SCALE", type := .int, accessFlags := 25, slot := 5, constantValue := 0 }, { name := "LOG2_ARRAY_INT_INDEX_SCALE", type := .int, accessFlags := 25, slot := 6, constantValue := 0 }, { name := "LOG2_ARRAY_LONG_INDEX_SCALE", type := .int, accessFlags := 25, slot := 7, constantValue := 0 }, { name := "LOG2_ARRAY_FLOAT_INDEX_SCALE", type := .int, accessFlags := 25, slot := 8, constantValue := 0 }, { name := "LOG2_ARRAY_DOUBLE_INDEX_SCALE", type := .int, accessFlags := 25, slot := 9, constantValue := 0 }, { name := "LOG2_BYTE_BIT_SIZE", type := .int, accessFlags := 26, slot := 10, constantValue := 0 }, { name := "T_BOOLEAN", type := .int, accessFlags := 25, slot := 11, constantValue := 0 }, { name := "T_CHAR", type := .int, accessFlags := 25, slot := 12, constantValue := 0 }, { name := "T_FLOAT", type := .int, accessFlags := 25, slot := 13, constantValue := 0 }, { name := "T_DOUBLE", type := .int, accessFlags := 25, slot := 14, constantValue := 0 }, { name := "T_BYTE", type := .int, accessFlags := 25, slot := 15, constantValue := 0 }, { name := "T_SHORT", type := .int, accessFlags := 25, slot := 16, constantValue := 0 }, { name := "T_INT", type := .int, accessFlags := 25, slot := 17, constantValue := 0 }, { name := "T_LONG", type := .int, accessFlags := 25, slot := 18, constantValue := 0 }, { name := "JLA", type := (.object "jdk/internal/access/JavaLangAccess"), accessFlags := 26, slot := 19, constantValue := 0 }, { name := "SOFT_MAX_ARRAY_LENGTH", type := .int, accessFlags := 25, slot := 20, constantValue := 0 }]
  methods := #[k12m0]
  instanceTypes := #[]
  staticTypes := #[(.object "jdk/internal/misc/Unsafe"), .boolean, .int, .int, .int, .int, .int, .int, .int, .int, .int, .int, .int, .int, .int, .int, .int, .int, .int, (.object "jdk/internal/access/JavaLangAccess"), .int]
  resolved := Array.replicate 378 none
  statics := none }

def pool13 : Array CpInfo := pool [(1, u "java/lang/Cloneable"), (0, .class_ 1), (0, u "java/lang/Object"), (0, .class_ 3)] 3

/-- java/lang/Cloneable -/
def k13 : Class := { plain "java/lang/Cloneable" (some 0) with
  accessFlags := 1537
  interfaces := #[]
  cf := some (fileOf pool13 2 #[] #[] 1537 4 #[] #[])
  fields := #[]
  methods := #[]
  instanceTypes := #[]
  staticTypes := #[]
  resolved := Array.replicate 8 none
  statics := none }

/-- the primitive byte -/
def k14 : Class := { plain "byte" none with kind := .primitive 'B', accessFlags := 0x411 }
/-- [B -/
def k15 : Class := { plain "[B" (some 0) with kind := .array 14 .byte, interfaces := #[13, 2], accessFlags := 1041 }

/-- the primitive char -/
def k16 : Class := { plain "char" none with kind := .primitive 'C', accessFlags := 0x411 }
/-- [C -/
def k17 : Class := { plain "[C" (some 0) with kind := .array 16 .char, interfaces := #[13, 2], accessFlags := 1041 }

/-- the primitive int -/
def k18 : Class := { plain "int" none with kind := .primitive 'I', accessFlags := 0x411 }
/-- [I -/
def k19 : Class := { plain "[I" (some 0) with kind := .array 18 .int, interfaces := #[13, 2], accessFlags := 1041 }

def heap : Heap := #[{ cls := 7, slots := #[.long 0, .int 1, .null, .int 0, .null, .int 0, .int 0], vm := .statics 7 },
  { cls := 9, slots := #[.int 0, .int 8, .int 0, .int 1], vm := .statics 9 },
  { cls := 11, slots := #[.null, .null, .null], vm := .statics 11 }]
def classes : Array Class := #[k0, k1, k2, k3, k4, k5, k6, k7, k8, k9, k10, k11, k12, k13, k14, k15, k16, k17, k18, k19]
def interned : List (Array UInt16 × Addr) := []
def slotsUsed : Nat := 14
def theMethod : MethodId := ⟨1, 4⟩
def args0 : Array Value := #[.int 5, .int 7, .int 3, .int 4, .int 9]
def aboutOver (below : List Frame) : State where
  vm := { classes := classes, interned := interned.toArray }
  heap := heap
  slotsUsed := slotsUsed
  threads := #[{ frames := .invoking theMethod args0 :: below }]
def below0 : List Frame := [.native { method := ⟨0, 0⟩, args := #[] }]
def about1 : State := aboutOver below0
def p0 : Program := .bare "" "" ""
def e0 : Env := launch0.env 0 0 0
theorem w_frames : about1.frames = Frame.invoking theMethod args0 :: below0 := rfl
set_option maxRecDepth 65536 in
theorem w_args : argsFit about1.vm theMethod args0 = true := by decide +kernel
set_option maxRecDepth 65536 in
theorem w_heap : heapFits about1 = true := by decide +kernel
set_option maxRecDepth 65536 in
theorem w_runnable : about1.curStatus? = some .runnable := by decide +kernel
set_option maxRecDepth 65536 in
theorem w_alone : about1.alone = true := by decide +kernel
set_option maxRecDepth 65536 in
theorem w_named : about1.methodNamed? x = some theMethod := by decide +kernel
set_option maxRecDepth 65536 in
theorem w_hears : about1.hears theMethod below0 = true := by decide +kernel
set_option maxRecDepth 65536 in
theorem w_ripe : about1.ripe theMethod args0 below0 = true := by decide +kernel
theorem w_running : about1.status = .running := rfl
set_option maxRecDepth 65536 in
theorem w_room : about1.hasRoom e0.platform room_1 = true :=
  launch0.hasRoom_least _ room_1 (by decide +kernel) (by decide +kernel) (by decide +kernel) (by decide +kernel) (by decide +kernel) (by decide +kernel)
theorem allAtoms_all (ts : List Jvm.Cond) (a : Array Jvm.Value) (st : Jvm.State) : (allAtoms ts).before a st = ts.all (fun c => c.before a st) := by
  induction ts with
  | nil => rfl
  | cons c t ih =>
    show (Jvm.Cond.and c (allAtoms t)).before a st = _
    rw [Jvm.Cond.before_and, ih, List.all_cons]
def words1 : List Jvm.Cond := Jvm.Cond.code x code maxLocals ret :: tables_1
/-- a 'code' word, met by the world's own term for the bytes: nothing is compared byte by byte -/
theorem code_word {y : MethodName} {bytes : ByteArray} {mx : Nat} {rt : Option FieldType} {a : Array Value} {s : State} {m : MethodId} {meth : Method} {c : Code} (h1 : s.methodNamed? y = some m) (h2 : s.vm.method? m = some meth) (h3 : meth.code = some c) (h4 : c.code = bytes)
    (h5 : (c.maxLocals == mx && c.exceptionTable.isEmpty && decide (c.maxStack ≤ mostOperands) && decide (meth.sig.returnType = rt) && !meth.locks && decide (parseMethodDescriptor y.desc = some meth.sig)) = true) : (Jvm.Cond.code y bytes mx rt).before a s = true := by
  simp only [Bool.and_eq_true, beq_iff_eq, Bool.not_eq_true', decide_eq_true_eq] at h5
  obtain ⟨⟨⟨⟨⟨g1, g2⟩, g3⟩, g4⟩, g5⟩, g6⟩ := h5
  simp [Cond.before, Cond.holds, Cond.value, h1, h2, h3, h4, g1, g2, g3, g4, g5, g6]
def isCode : Jvm.Cond → Bool
  | .code _ _ _ _ => true
  | _ => false
theorem all_split {L : List Jvm.Cond} {P : Jvm.Cond → Bool} (h1 : L.all (fun c => isCode c || P c) = true) (h2 : ∀ c ∈ L.filter isCode, P c = true) : L.all P = true := by
  refine List.all_eq_true.mpr fun c hc => ?_
  have h := List.all_eq_true.mp h1 c hc
  rcases Bool.eq_false_or_eq_true (isCode c) with hi | hi
  · exact h2 c (List.mem_filter.mpr ⟨hc, hi⟩)
  · simpa [hi] using h
set_option maxRecDepth 65536 in
theorem w_c0 : (Jvm.Cond.code x code maxLocals ret).before args0 about1 = true := code_word (m := ⟨1, 4⟩) (meth := k1m4) (c := k1c4) (by decide +kernel) rfl rfl rfl (by decide +kernel)
set_option maxRecDepth 65536 in
theorem w_c1 : (Jvm.Cond.code ({ cls := "com/example/ermine/ermine/model/NotationIsNamePinLaw", name := "draw", desc := "(I)C" } : Jvm.MethodName) method_2_code (1 : Nat) (Option.some Jvm.ClassFile.FieldType.char)).before args0 about1 = true := code_word (m := ⟨1, 1⟩) (meth := k1m1) (c := k1c1) (by decide +kernel) rfl rfl rfl (by decide +kernel)
set_option maxRecDepth 65536 in
theorem w_c2 : (Jvm.Cond.code ({ cls := "com/example/ermine/ermine/model/NotationIsNamePinLaw", name := "make", desc := "(ICCCC)[C" } : Jvm.MethodName) method_4_code (5 : Nat) (Option.some (Jvm.ClassFile.FieldType.array Jvm.ClassFile.FieldType.char))).before args0 about1 = true := code_word (m := ⟨1, 3⟩) (meth := k1m3) (c := k1c3) (by decide +kernel) rfl rfl rfl (by decide +kernel)
set_option maxRecDepth 65536 in
theorem w_c3 : (Jvm.Cond.code ({ cls := "java/lang/String", name := "<init>", desc := "([C)V" } : Jvm.MethodName) jdk_42_method_3_code (2 : Nat) (Option.none : Option Jvm.ClassFile.FieldType)).before args0 about1 = true := code_word (m := ⟨7, 1⟩) (meth := k7m1) (c := k7c1) (by decide +kernel) rfl rfl rfl (by decide +kernel)
set_option maxRecDepth 65536 in
theorem w_c4 : (Jvm.Cond.code ({ cls := "java/lang/String", name := "<init>", desc := "([CIILjava/lang/Void;)V" } : Jvm.MethodName) jdk_42_method_149_code (6 : Nat) (Option.none : Option Jvm.ClassFile.FieldType)).before args0 about1 = true := code_word (m := ⟨7, 5⟩) (meth := k7m5) (c := k7c5) (by decide +kernel) rfl rfl rfl (by decide +kernel)
set_option maxRecDepth 65536 in
theorem w_c5 : (Jvm.Cond.code ({ cls := "java/lang/Object", name := "<init>", desc := "()V" } : Jvm.MethodName) object_method_1_code (1 : Nat) (Option.none : Option Jvm.ClassFile.FieldType)).before args0 about1 = true := code_word (m := ⟨0, 0⟩) (meth := k0m0) (c := k0c0) (by decide +kernel) rfl rfl rfl (by decide +kernel)
set_option maxRecDepth 65536 in
theorem w_c6 : (Jvm.Cond.code ({ cls := "com/example/ermine/ermine/model/Notation", name := "isName", desc := "(Ljava/lang/String;)Z" } : Jvm.MethodName) prog_6_method_5_code (4 : Nat) (Option.some Jvm.ClassFile.FieldType.boolean)).before args0 about1 = true := code_word (m := ⟨8, 1⟩) (meth := k8m1) (c := k8c1) (by decide +kernel) rfl rfl rfl (by decide +kernel)
set_option maxRecDepth 65536 in
theorem w_c7 : (Jvm.Cond.code ({ cls := "java/lang/String", name := "isEmpty", desc := "()Z" } : Jvm.MethodName) jdk_42_method_55_code (1 : Nat) (Option.some Jvm.ClassFile.FieldType.boolean)).before args0 about1 = true := code_word (m := ⟨7, 3⟩) (meth := k7m3) (c := k7c3) (by decide +kernel) rfl rfl rfl (by decide +kernel)
set_option maxRecDepth 65536 in
theorem w_c8 : (Jvm.Cond.code ({ cls := "java/lang/StringUTF16", name := "compress", desc := "([CII)[B" } : Jvm.MethodName) jdk_52_method_16_code (6 : Nat) (Option.some (Jvm.ClassFile.FieldType.array Jvm.ClassFile.FieldType.byte))).before args0 about1 = true := code_word (m := ⟨9, 8⟩) (meth := k9m8) (c := k9c8) (by decide +kernel) rfl rfl rfl (by decide +kernel)
set_option maxRecDepth 65536 in
theorem w_c9 : (Jvm.Cond.code ({ cls := "java/lang/StringUTF16", name := "compress", desc := "([CI[BII)I" } : Jvm.MethodName) jdk_52_method_21_code (7 : Nat) (Option.some Jvm.ClassFile.FieldType.int)).before args0 about1 = true := code_word (m := ⟨9, 9⟩) (meth := k9m9) (c := k9c9) (by decide +kernel) rfl rfl rfl (by decide +kernel)
set_option maxRecDepth 65536 in
theorem w_c10 : (Jvm.Cond.code ({ cls := "java/lang/StringUTF16", name := "coderFromArrayLen", desc := "([BI)B" } : Jvm.MethodName) jdk_52_method_15_code (2 : Nat) (Option.some Jvm.ClassFile.FieldType.byte)).before args0 about1 = true := code_word (m := ⟨9, 7⟩) (meth := k9m7) (c := k9c7) (by decide +kernel) rfl rfl rfl (by decide +kernel)
set_option maxRecDepth 65536 in
theorem w_c11 : (Jvm.Cond.code ({ cls := "com/example/ermine/ermine/model/NotationIsNamePinLaw", name := "nameChar", desc := "(C)Z" } : Jvm.MethodName) method_3_code (1 : Nat) (Option.some Jvm.ClassFile.FieldType.boolean)).before args0 about1 = true := code_word (m := ⟨1, 2⟩) (meth := k1m2) (c := k1c2) (by decide +kernel) rfl rfl rfl (by decide +kernel)
set_option maxRecDepth 65536 in
theorem w_c12 : (Jvm.Cond.code ({ cls := "java/lang/String", name := "length", desc := "()I" } : Jvm.MethodName) jdk_42_method_54_code (1 : Nat) (Option.some Jvm.ClassFile.FieldType.int)).before args0 about1 = true := code_word (m := ⟨7, 2⟩) (meth := k7m2) (c := k7c2) (by decide +kernel) rfl rfl rfl (by decide +kernel)
set_option maxRecDepth 65536 in
theorem w_c13 : (Jvm.Cond.code ({ cls := "java/lang/String", name := "coder", desc := "()B" } : Jvm.MethodName) jdk_42_method_152_code (1 : Nat) (Option.some Jvm.ClassFile.FieldType.byte)).before args0 about1 = true := code_word (m := ⟨7, 6⟩) (meth := k7m6) (c := k7c6) (by decide +kernel) rfl rfl rfl (by decide +kernel)
set_option maxRecDepth 65536 in
theorem w_c14 : (Jvm.Cond.code ({ cls := "java/lang/String", name := "charAt", desc := "(I)C" } : Jvm.MethodName) jdk_42_method_56_code (2 : Nat) (Option.some Jvm.ClassFile.FieldType.char)).before args0 about1 = true := code_word (m := ⟨7, 4⟩) (meth := k7m4) (c := k7c4) (by decide +kernel) rfl rfl rfl (by decide +kernel)
set_option maxRecDepth 65536 in
theorem w_c15 : (Jvm.Cond.code ({ cls := "java/lang/String", name := "isLatin1", desc := "()Z" } : Jvm.MethodName) jdk_42_method_154_code (1 : Nat) (Option.some Jvm.ClassFile.FieldType.boolean)).before args0 about1 = true := code_word (m := ⟨7, 7⟩) (meth := k7m7) (c := k7c7) (by decide +kernel) rfl rfl rfl (by decide +kernel)
set_option maxRecDepth 65536 in
theorem w_c16 : (Jvm.Cond.code ({ cls := "java/lang/StringLatin1", name := "charAt", desc := "([BI)C" } : Jvm.MethodName) jdk_43_method_2_code (2 : Nat) (Option.some Jvm.ClassFile.FieldType.char)).before args0 about1 = true := code_word (m := ⟨10, 1⟩) (meth := k10m1) (c := k10c1) (by decide +kernel) rfl rfl rfl (by decide +kernel)
set_option maxRecDepth 65536 in
theorem w_c17 : (Jvm.Cond.code ({ cls := "java/lang/String", name := "checkIndex", desc := "(II)V" } : Jvm.MethodName) jdk_42_method_155_code (2 : Nat) (Option.none : Option Jvm.ClassFile.FieldType)).before args0 about1 = true := code_word (m := ⟨7, 8⟩) (meth := k7m8) (c := k7c8) (by decide +kernel) rfl rfl rfl (by decide +kernel)
set_option maxRecDepth 65536 in
theorem w_c18 : (Jvm.Cond.code ({ cls := "jdk/internal/util/Preconditions", name := "checkIndex", desc := "(IILjava/util/function/BiFunction;)I" } : Jvm.MethodName) jdk_41_method_11_code (3 : Nat) (Option.some Jvm.ClassFile.FieldType.int)).before args0 about1 = true := code_word (m := ⟨11, 1⟩) (meth := k11m1) (c := k11c1) (by decide +kernel) rfl rfl rfl (by decide +kernel)
set_option maxRecDepth 65536 in
theorem w_c19 : (Jvm.Cond.code ({ cls := "java/lang/StringUTF16", name := "toBytes", desc := "([CII)[B" } : Jvm.MethodName) jdk_52_method_14_code (5 : Nat) (Option.some (Jvm.ClassFile.FieldType.array Jvm.ClassFile.FieldType.byte))).before args0 about1 = true := code_word (m := ⟨9, 6⟩) (meth := k9m6) (c := k9c6) (by decide +kernel) rfl rfl rfl (by decide +kernel)
set_option maxRecDepth 65536 in
theorem w_c20 : (Jvm.Cond.code ({ cls := "java/lang/StringUTF16", name := "newBytesFor", desc := "(I)[B" } : Jvm.MethodName) jdk_52_method_2_code (1 : Nat) (Option.some (Jvm.ClassFile.FieldType.array Jvm.ClassFile.FieldType.byte))).before args0 about1 = true := code_word (m := ⟨9, 1⟩) (meth := k9m1) (c := k9c1) (by decide +kernel) rfl rfl rfl (by decide +kernel)
set_option maxRecDepth 65536 in
theorem w_c21 : (Jvm.Cond.code ({ cls := "java/lang/StringUTF16", name := "newBytesLength", desc := "(I)I" } : Jvm.MethodName) jdk_52_method_3_code (1 : Nat) (Option.some Jvm.ClassFile.FieldType.int)).before args0 about1 = true := code_word (m := ⟨9, 2⟩) (meth := k9m2) (c := k9c2) (by decide +kernel) rfl rfl rfl (by decide +kernel)
set_option maxRecDepth 65536 in
theorem w_c22 : (Jvm.Cond.code ({ cls := "java/lang/StringUTF16", name := "putChar", desc := "([BII)V" } : Jvm.MethodName) jdk_52_method_4_code (3 : Nat) (Option.none : Option Jvm.ClassFile.FieldType)).before args0 about1 = true := code_word (m := ⟨9, 3⟩) (meth := k9m3) (c := k9c3) (by decide +kernel) rfl rfl rfl (by decide +kernel)
set_option maxRecDepth 65536 in
theorem w_c23 : (Jvm.Cond.code ({ cls := "java/lang/StringUTF16", name := "getChar", desc := "([BI)C" } : Jvm.MethodName) jdk_52_method_5_code (2 : Nat) (Option.some Jvm.ClassFile.FieldType.char)).before args0 about1 = true := code_word (m := ⟨9, 4⟩) (meth := k9m4) (c := k9c4) (by decide +kernel) rfl rfl rfl (by decide +kernel)
set_option maxRecDepth 65536 in
theorem w_c24 : (Jvm.Cond.code ({ cls := "java/lang/StringUTF16", name := "charAt", desc := "([BI)C" } : Jvm.MethodName) jdk_52_method_83_code (2 : Nat) (Option.some Jvm.ClassFile.FieldType.char)).before args0 about1 = true := code_word (m := ⟨9, 10⟩) (meth := k9m10) (c := k9c10) (by decide +kernel) rfl rfl rfl (by decide +kernel)
set_option maxRecDepth 65536 in
theorem w_c25 : (Jvm.Cond.code ({ cls := "java/lang/StringUTF16", name := "checkIndex", desc := "(I[B)V" } : Jvm.MethodName) jdk_52_method_91_code (2 : Nat) (Option.none : Option Jvm.ClassFile.FieldType)).before args0 about1 = true := code_word (m := ⟨9, 11⟩) (meth := k9m11) (c := k9c11) (by decide +kernel) rfl rfl rfl (by decide +kernel)
set_option maxRecDepth 65536 in
theorem w_c26 : (Jvm.Cond.code ({ cls := "java/lang/StringUTF16", name := "length", desc := "([B)I" } : Jvm.MethodName) jdk_52_method_6_code (1 : Nat) (Option.some Jvm.ClassFile.FieldType.int)).before args0 about1 = true := code_word (m := ⟨9, 5⟩) (meth := k9m5) (c := k9c5) (by decide +kernel) rfl rfl rfl (by decide +kernel)
def codes1 : List Jvm.Cond := [Jvm.Cond.code x code maxLocals ret, Jvm.Cond.code ({ cls := "com/example/ermine/ermine/model/NotationIsNamePinLaw", name := "draw", desc := "(I)C" } : Jvm.MethodName) method_2_code (1 : Nat) (Option.some Jvm.ClassFile.FieldType.char), Jvm.Cond.code ({ cls := "com/example/ermine/ermine/model/NotationIsNamePinLaw", name := "make", desc := "(ICCCC)[C" } : Jvm.MethodName) method_4_code (5 : Nat) (Option.some (Jvm.ClassFile.FieldType.array Jvm.ClassFile.FieldType.char)), Jvm.Cond.code ({ cls := "java/lang/String", name := "<init>", desc := "([C)V" } : Jvm.MethodName) jdk_42_method_3_code (2 : Nat) (Option.none : Option Jvm.ClassFile.FieldType), Jvm.Cond.code ({ cls := "java/lang/String", name := "<init>", desc := "([CIILjava/lang/Void;)V" } : Jvm.MethodName) jdk_42_method_149_code (6 : Nat) (Option.none : Option Jvm.ClassFile.FieldType), Jvm.Cond.code ({ cls := "java/lang/Object", name := "<init>", desc := "()V" } : Jvm.MethodName) object_method_1_code (1 : Nat) (Option.none : Option Jvm.ClassFile.FieldType), Jvm.Cond.code ({ cls := "com/example/ermine/ermine/model/Notation", name := "isName", desc := "(Ljava/lang/String;)Z" } : Jvm.MethodName) prog_6_method_5_code (4 : Nat) (Option.some Jvm.ClassFile.FieldType.boolean), Jvm.Cond.code ({ cls := "java/lang/String", name := "isEmpty", desc := "()Z" } : Jvm.MethodName) jdk_42_method_55_code (1 : Nat) (Option.some Jvm.ClassFile.FieldType.boolean), Jvm.Cond.code ({ cls := "java/lang/StringUTF16", name := "compress", desc := "([CII)[B" } : Jvm.MethodName) jdk_52_method_16_code (6 : Nat) (Option.some (Jvm.ClassFile.FieldType.array Jvm.ClassFile.FieldType.byte)), Jvm.Cond.code ({ cls := "java/lang/StringUTF16", name := "compress", desc := "([CI[BII)I" } : Jvm.MethodName) jdk_52_method_21_code (7 : Nat) (Option.some Jvm.ClassFile.FieldType.int), Jvm.Cond.code ({ cls := "java/lang/StringUTF16", name := "coderFromArrayLen", desc := "([BI)B" } : Jvm.MethodName) jdk_52_method_15_code (2 : Nat) (Option.some Jvm.ClassFile.FieldType.byte), Jvm.Cond.code ({ cls := "com/example/ermine/ermine/model/NotationIsNamePinLaw", name := "nameChar", desc := "(C)Z" } : Jvm.MethodName) method_3_code (1 : Nat) (Option.some Jvm.ClassFile.FieldType.boolean), Jvm.Cond.code ({ cls := "java/lang/String", name := "length", desc := "()I" } : Jvm.MethodName) jdk_42_method_54_code (1 : Nat) (Option.some Jvm.ClassFile.FieldType.int), Jvm.Cond.code ({ cls := "java/lang/String", name := "coder", desc := "()B" } : Jvm.MethodName) jdk_42_method_152_code (1 : Nat) (Option.some Jvm.ClassFile.FieldType.byte), Jvm.Cond.code ({ cls := "java/lang/String", name := "charAt", desc := "(I)C" } : Jvm.MethodName) jdk_42_method_56_code (2 : Nat) (Option.some Jvm.ClassFile.FieldType.char), Jvm.Cond.code ({ cls := "java/lang/String", name := "isLatin1", desc := "()Z" } : Jvm.MethodName) jdk_42_method_154_code (1 : Nat) (Option.some Jvm.ClassFile.FieldType.boolean), Jvm.Cond.code ({ cls := "java/lang/StringLatin1", name := "charAt", desc := "([BI)C" } : Jvm.MethodName) jdk_43_method_2_code (2 : Nat) (Option.some Jvm.ClassFile.FieldType.char), Jvm.Cond.code ({ cls := "java/lang/String", name := "checkIndex", desc := "(II)V" } : Jvm.MethodName) jdk_42_method_155_code (2 : Nat) (Option.none : Option Jvm.ClassFile.FieldType), Jvm.Cond.code ({ cls := "jdk/internal/util/Preconditions", name := "checkIndex", desc := "(IILjava/util/function/BiFunction;)I" } : Jvm.MethodName) jdk_41_method_11_code (3 : Nat) (Option.some Jvm.ClassFile.FieldType.int), Jvm.Cond.code ({ cls := "java/lang/StringUTF16", name := "toBytes", desc := "([CII)[B" } : Jvm.MethodName) jdk_52_method_14_code (5 : Nat) (Option.some (Jvm.ClassFile.FieldType.array Jvm.ClassFile.FieldType.byte)), Jvm.Cond.code ({ cls := "java/lang/StringUTF16", name := "newBytesFor", desc := "(I)[B" } : Jvm.MethodName) jdk_52_method_2_code (1 : Nat) (Option.some (Jvm.ClassFile.FieldType.array Jvm.ClassFile.FieldType.byte)), Jvm.Cond.code ({ cls := "java/lang/StringUTF16", name := "newBytesLength", desc := "(I)I" } : Jvm.MethodName) jdk_52_method_3_code (1 : Nat) (Option.some Jvm.ClassFile.FieldType.int), Jvm.Cond.code ({ cls := "java/lang/StringUTF16", name := "putChar", desc := "([BII)V" } : Jvm.MethodName) jdk_52_method_4_code (3 : Nat) (Option.none : Option Jvm.ClassFile.FieldType), Jvm.Cond.code ({ cls := "java/lang/StringUTF16", name := "getChar", desc := "([BI)C" } : Jvm.MethodName) jdk_52_method_5_code (2 : Nat) (Option.some Jvm.ClassFile.FieldType.char), Jvm.Cond.code ({ cls := "java/lang/StringUTF16", name := "charAt", desc := "([BI)C" } : Jvm.MethodName) jdk_52_method_83_code (2 : Nat) (Option.some Jvm.ClassFile.FieldType.char), Jvm.Cond.code ({ cls := "java/lang/StringUTF16", name := "checkIndex", desc := "(I[B)V" } : Jvm.MethodName) jdk_52_method_91_code (2 : Nat) (Option.none : Option Jvm.ClassFile.FieldType), Jvm.Cond.code ({ cls := "java/lang/StringUTF16", name := "length", desc := "([B)I" } : Jvm.MethodName) jdk_52_method_6_code (1 : Nat) (Option.some Jvm.ClassFile.FieldType.int)]
set_option maxRecDepth 65536 in
theorem codes_eq : words1.filter isCode = codes1 := rfl
theorem w_codes : ∀ c ∈ words1.filter isCode, c.before args0 about1 = true := by
  rw [codes_eq]
  intro c hc
  simp only [codes1, List.mem_cons, List.not_mem_nil, or_false] at hc
  rcases hc with rfl | rfl | rfl | rfl | rfl | rfl | rfl | rfl | rfl | rfl | rfl | rfl | rfl | rfl | rfl | rfl | rfl | rfl | rfl | rfl | rfl | rfl | rfl | rfl | rfl | rfl | rfl
  · exact w_c0
  · exact w_c1
  · exact w_c2
  · exact w_c3
  · exact w_c4
  · exact w_c5
  · exact w_c6
  · exact w_c7
  · exact w_c8
  · exact w_c9
  · exact w_c10
  · exact w_c11
  · exact w_c12
  · exact w_c13
  · exact w_c14
  · exact w_c15
  · exact w_c16
  · exact w_c17
  · exact w_c18
  · exact w_c19
  · exact w_c20
  · exact w_c21
  · exact w_c22
  · exact w_c23
  · exact w_c24
  · exact w_c25
  · exact w_c26
set_option maxRecDepth 65536 in
theorem w_t1 : (words1.take 24).all (fun c => isCode c || c.before args0 about1) = true := by decide +kernel
set_option maxRecDepth 65536 in
theorem w_t2 : ((words1.drop 24).take 24).all (fun c => isCode c || c.before args0 about1) = true := by decide +kernel
set_option maxRecDepth 65536 in
theorem w_t3 : (((words1.drop 24).drop 24).take 24).all (fun c => isCode c || c.before args0 about1) = true := by decide +kernel
set_option maxRecDepth 65536 in
theorem w_t4 : ((((words1.drop 24).drop 24).drop 24).take 24).all (fun c => isCode c || c.before args0 about1) = true := by decide +kernel
set_option maxRecDepth 65536 in
theorem w_t5 : ((((words1.drop 24).drop 24).drop 24).drop 24).all (fun c => isCode c || c.before args0 about1) = true := by decide +kernel
theorem w_tables : (allAtoms (Jvm.Cond.code x code maxLocals ret :: tables_1)).before args0 about1 = true := by
  rw [allAtoms_all]
  show words1.all (fun c => c.before args0 about1) = true
  refine all_split ?_ w_codes
  rw [← List.take_append_drop 24 words1, List.all_append, w_t1, ← List.take_append_drop 24 (words1.drop 24), List.all_append, w_t2, ← List.take_append_drop 24 ((words1.drop 24).drop 24), List.all_append, w_t3, ← List.take_append_drop 24 (((words1.drop 24).drop 24).drop 24), List.all_append, w_t4, w_t5]
  rfl
set_option maxRecDepth 65536 in
theorem w_rest : rest_1_c.before args0 about1 = true := by decide +kernel
set_option maxRecDepth 65536 in
theorem w_case : (Jvm.Cond.and given_1 narrow_1).before args0 about1 = true := by decide +kernel
set_option maxRecDepth 65536 in
theorem w_consts : constsHeld consts_1 about1 := Jvm.Lit.constsHeldB_iff.mp (by decide +kernel)
theorem w_applies : (headSpec (Jvm.Cond.code x code maxLocals ret :: tables_1) room_1).applies x e0.platform about1 = true :=
  (Spec.applies_iff w_frames).mpr ⟨w_running, w_runnable, w_alone, w_named, w_hears, w_ripe, w_room, w_tables⟩
theorem atStart : AtStart classFile x code maxLocals ret World_1 tables_1 room_1 Calls_1 rest_1 Pre_1 launch0 p0 e0 about1 theMethod args0 below0 :=
  ⟨lists_1, trivial, launch0.admits_env _ _ _, launch0.least_env, fairChoices_fair.cas, fairChoices_fair.clock, w_frames, w_args, w_heap, w_applies, ⟨w_consts, trivial⟩, w_rest, w_case⟩
end start1
theorem witness_1 : WitnessClaimed_1 := ⟨start1.p0, start1.e0, start1.about1, start1.theMethod, start1.args0, start1.below0, start1.atStart⟩
end Jvm.Pilot.@@N@@
