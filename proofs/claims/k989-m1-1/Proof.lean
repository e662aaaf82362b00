import JvmDerived
import JvmDerived.Pilot.@@N@@Statement
import JvmDerived.Pilot.@@N@@Code
set_option linter.unusedVariables false
set_option linter.unusedSimpArgs false
namespace Jvm.Own
open Sem ClassFile Op Lib Jvm.Stand Jvm.Free Jvm.LawKit Jvm.RoadKit
section Own
variable {p : Program} {l : Launch} {e : Env} {R : Room} {s : State} {m : MethodId} {args : Array Value} {below : List Frame} {meth : Method} {c : Code} {T : State} {locs : List Loc} {cells slots : Nat} {Z : State} {a0 : Array Value} {h : Heap} {G : Outcome → State → Prop} {pc pc' : Nat} {Ls : Array Slot} {st rest : List Value} {own : String} {index : Nat}
/-- from this frame the body ends, and G holds of its end -/
def Go (p : Program) (e : Env) (below : List Frame) (T : State) (g : JFrame) (G : Outcome → State → Prop) : Prop :=
  ∃ (s₂ : State) (o : Outcome), Steps p.tables e below (T.setTop g) s₂ ∧ s₂.status = .running ∧ Ended s₂ below o ∧ G o s₂
theorem Go.via {T' : State} {g g' : JFrame} (k : Go p e below T' g' G) (f : ∀ t, Steps p.tables e below (T'.setTop g') t → Steps p.tables e below (T.setTop g) t) : Go p e below T g G := by
  obtain ⟨s₂, o, h1, h2⟩ := k; exact ⟨s₂, o, f _ h1, h2⟩
abbrev RetG (s : State) (Q : Option Value → Heap → List Loc → Prop) (C S : Nat) (o : Outcome) (t : State) : Prop := ∃ v L, o = .returned v ∧ Q v t.heap L ∧ FrameEnd s o t L C S
abbrev Met (l : Launch) (y : MethodName) (bytes : ByteArray) (maxL : Nat) (ret : Option FieldType) (ws : List Jvm.Cond) (rm : Room) (Z : State) (as' : Array Value) (h0 : Heap) (Q : Option Value → Heap → List Loc → Prop) : Prop :=
  MetFree l y (head1 (Jvm.Cond.code y bytes maxL ret :: ws) rm) (fun a U => a = as' ∧ Z.Warmed39 U.vm ∧ U.heap = h0) (fun _ _ _ _ _ => True) (fun _ U o U' => RetG U Q rm.cells rm.slots o U')
theorem Met.of {y : MethodName} {bytes : ByteArray} {maxL : Nat} {ret : Option FieldType} {ws : List Jvm.Cond} {rm : Room} {as' : Array Value} {h0 : Heap} {Q : Option Value → Heap → List Loc → Prop} (hpn : plainFor y = true) (hef : ∀ m, entryFrame m as' maxL = mkF m 0 Ls [])
    (body : ∀ (p : Program) (e : Env) (s : State) (m : MethodId) (below : List Frame) (meth : Method) (c : Code) (T : State), p.tables.exec = Jvm.exec → c.code = bytes → c.maxLocals = maxL → s.vm.findClass y.cls = some m.cls → meth.name = y.name → meth.sig.returnType = ret → meth.locks = false → Z.Warmed39 s.vm → Stand p l e rm s m as' below meth c T [] 0 0 → T.heap = h0 →
      Go p e below T (mkF m 0 Ls []) (RetG s Q rm.cells rm.slots)) : Met l y bytes maxL ret ws rm Z as' h0 Q := by
  refine MetFree.of_bodySF hpn hisR ?_
  intro p e s m args below meth c s₁ Bd hml0 hP hK
  obtain ⟨rfl, hZ, hh⟩ := hP
  obtain ⟨s₂, o, h1, h2, h3, h4⟩ := body p e s m below meth c s₁ Bd.exec Bd.bytes hml0 (findClass_of_methodNamed Bd.named) (name_of_methodNamed Bd.named Bd.method).1 Bd.returns (BodyLoose.notSynchronized Bd) hZ (Stand.of_body Bd) (by rw [← hh, Bd.state]; rfl)
  exact ⟨s₂, o, castTop (hef m) h1, h2, h3, h4⟩
/-! single steps -/
theorem Go.aload_n (X : Stand p l e R s m args below meth c T locs cells slots) (hx : p.tables.exec = Jvm.exec) {k : Fin 4} {v : Value} (hd : decode c.code pc = .ok (.aload_n k, 1)) (hl : Ls[k.val]? = some (.val v)) (hv : v.isRef = true) (n : Go p e below T (mkF m (pc + 1) Ls (v :: st)) G) : Go p e below T (mkF m pc Ls st) G :=
  n.via fun t q => XS.aloadN X.here hx rfl hd hl hv q
theorem Go.aload (X : Stand p l e R s m args below meth c T locs cells slots) (hx : p.tables.exec = Jvm.exec) {k : Nat} {v : Value} (hd : decode c.code pc = .ok (.aload k, 2)) (hl : Ls[k]? = some (.val v)) (hv : v.isRef = true) (n : Go p e below T (mkF m (pc + 2) Ls (v :: st)) G) : Go p e below T (mkF m pc Ls st) G :=
  n.via fun t q => XS.aload X.here hx rfl hd hl hv q
theorem Go.iload_n (X : Stand p l e R s m args below meth c T locs cells slots) (hx : p.tables.exec = Jvm.exec) {k : Fin 4} {v : Int32} (hd : decode c.code pc = .ok (.iload_n k, 1)) (hl : Ls[k.val]? = some (.val (.int v))) (n : Go p e below T (mkF m (pc + 1) Ls (.int v :: st)) G) : Go p e below T (mkF m pc Ls st) G :=
  n.via fun t q => XS.iloadN X.here hx rfl hd hl q
theorem Go.iload (X : Stand p l e R s m args below meth c T locs cells slots) (hx : p.tables.exec = Jvm.exec) {k : Nat} {v : Int32} (hd : decode c.code pc = .ok (.iload k, 2)) (hl : Ls[k]? = some (.val (.int v))) (n : Go p e below T (mkF m (pc + 2) Ls (.int v :: st)) G) : Go p e below T (mkF m pc Ls st) G :=
  n.via fun t q => XS.iload X.here hx rfl hd hl q
theorem Go.iconst (X : Stand p l e R s m args below meth c T locs cells slots) (hx : p.tables.exec = Jvm.exec) {i : Int} (hd : decode c.code pc = .ok (.iconst i, 1)) (n : Go p e below T (mkF m (pc + 1) Ls (.int (Int32.ofInt i) :: st)) G) : Go p e below T (mkF m pc Ls st) G :=
  n.via fun t q => XS.iconst X.here hx rfl hd q
theorem Go.bipush (X : Stand p l e R s m args below meth c T locs cells slots) (hx : p.tables.exec = Jvm.exec) {i : Int} (hd : decode c.code pc = .ok (.bipush i, 2)) (n : Go p e below T (mkF m (pc + 2) Ls (.int (Int8.ofInt i).toInt32 :: st)) G) : Go p e below T (mkF m pc Ls st) G :=
  n.via fun t q => XS.bipush X.here hx rfl hd q
theorem Go.sipush (X : Stand p l e R s m args below meth c T locs cells slots) (hx : p.tables.exec = Jvm.exec) {i : Int} (hd : decode c.code pc = .ok (.sipush i, 3)) (n : Go p e below T (mkF m (pc + 3) Ls (.int (Int16.ofInt i).toInt32 :: st)) G) : Go p e below T (mkF m pc Ls st) G :=
  n.via fun t q => XS.sipush X.here hx rfl hd q
theorem Go.aconst_null (X : Stand p l e R s m args below meth c T locs cells slots) (hx : p.tables.exec = Jvm.exec) (hd : decode c.code pc = .ok (.aconst_null, 1)) (n : Go p e below T (mkF m (pc + 1) Ls (.null :: st)) G) : Go p e below T (mkF m pc Ls st) G :=
  n.via fun t q => XS.aconstNull X.here hx rfl hd q
theorem Go.ldcI (X : Stand p l e R s m args below meth c T locs cells slots) (hx : p.tables.exec = Jvm.exec) (hZ : Z.Warmed39 s.vm) (hown : s.vm.findClass own = some m.cls) {v : Int32} (w : (Cond.constant own index v).before a0 Z = true) (hd : decode c.code pc = .ok (.ldc index, 2)) (n : Go p e below T (mkF m (pc + 2) Ls (.int v :: st)) G) : Go p e below T (mkF m pc Ls st) G :=
  n.via fun t q => X.ldcInt hx hown (mvT hZ w) (g := mkF m pc Ls st) rfl hd t q
section Bin
variable {x y : Int32}
theorem Go.iadd (X : Stand p l e R s m args below meth c T locs cells slots) (hx : p.tables.exec = Jvm.exec) (hd : decode c.code pc = .ok (.iadd, 1)) (n : Go p e below T (mkF m (pc + 1) Ls (.int (x + y) :: st)) G) : Go p e below T (mkF m pc Ls (.int y :: .int x :: st)) G :=
  n.via fun t q => XS.iadd X.here hx rfl hd rfl q
theorem Go.isub (X : Stand p l e R s m args below meth c T locs cells slots) (hx : p.tables.exec = Jvm.exec) (hd : decode c.code pc = .ok (.isub, 1)) (n : Go p e below T (mkF m (pc + 1) Ls (.int (x - y) :: st)) G) : Go p e below T (mkF m pc Ls (.int y :: .int x :: st)) G :=
  n.via fun t q => XS.isub X.here hx rfl hd rfl q
theorem Go.imul (X : Stand p l e R s m args below meth c T locs cells slots) (hx : p.tables.exec = Jvm.exec) (hd : decode c.code pc = .ok (.imul, 1)) (n : Go p e below T (mkF m (pc + 1) Ls (.int (x * y) :: st)) G) : Go p e below T (mkF m pc Ls (.int y :: .int x :: st)) G :=
  n.via fun t q => XS.imul X.here hx rfl hd rfl q
theorem Go.iand (X : Stand p l e R s m args below meth c T locs cells slots) (hx : p.tables.exec = Jvm.exec) (hd : decode c.code pc = .ok (.iand, 1)) (n : Go p e below T (mkF m (pc + 1) Ls (.int (x &&& y) :: st)) G) : Go p e below T (mkF m pc Ls (.int y :: .int x :: st)) G :=
  n.via fun t q => XS.iand X.here hx rfl hd rfl q
theorem Go.ior (X : Stand p l e R s m args below meth c T locs cells slots) (hx : p.tables.exec = Jvm.exec) (hd : decode c.code pc = .ok (.ior, 1)) (n : Go p e below T (mkF m (pc + 1) Ls (.int (x ||| y) :: st)) G) : Go p e below T (mkF m pc Ls (.int y :: .int x :: st)) G :=
  n.via fun t q => XT.ior X.here hx rfl hd rfl q
theorem Go.ixor (X : Stand p l e R s m args below meth c T locs cells slots) (hx : p.tables.exec = Jvm.exec) (hd : decode c.code pc = .ok (.ixor, 1)) (n : Go p e below T (mkF m (pc + 1) Ls (.int (x ^^^ y) :: st)) G) : Go p e below T (mkF m pc Ls (.int y :: .int x :: st)) G :=
  n.via fun t q => XT.ixor X.here hx rfl hd rfl q
theorem Go.ishl (X : Stand p l e R s m args below meth c T locs cells slots) (hx : p.tables.exec = Jvm.exec) (hd : decode c.code pc = .ok (.ishl, 1)) (n : Go p e below T (mkF m (pc + 1) Ls (.int (x <<< (y &&& 31)) :: st)) G) : Go p e below T (mkF m pc Ls (.int y :: .int x :: st)) G :=
  n.via fun t q => XT.ishl X.here hx rfl hd rfl q
theorem Go.ishr (X : Stand p l e R s m args below meth c T locs cells slots) (hx : p.tables.exec = Jvm.exec) (hd : decode c.code pc = .ok (.ishr, 1)) (n : Go p e below T (mkF m (pc + 1) Ls (.int (x >>> (y &&& 31)) :: st)) G) : Go p e below T (mkF m pc Ls (.int y :: .int x :: st)) G :=
  n.via fun t q => XT.ishr X.here hx rfl hd rfl q
theorem Go.iushr (X : Stand p l e R s m args below meth c T locs cells slots) (hx : p.tables.exec = Jvm.exec) (hd : decode c.code pc = .ok (.iushr, 1)) (n : Go p e below T (mkF m (pc + 1) Ls (.int (XT.ushr x y) :: st)) G) : Go p e below T (mkF m pc Ls (.int y :: .int x :: st)) G :=
  n.via fun t q => XT.iushr X.here hx rfl hd rfl q
theorem Go.idiv (X : Stand p l e R s m args below meth c T locs cells slots) (hx : p.tables.exec = Jvm.exec) (hd : decode c.code pc = .ok (.idiv, 1)) (hy : y ≠ 0) (n : Go p e below T (mkF m (pc + 1) Ls (.int (x / y) :: st)) G) : Go p e below T (mkF m pc Ls (.int y :: .int x :: st)) G :=
  n.via fun t q => XS.idiv X.here hx rfl hd rfl hy q
theorem Go.irem (X : Stand p l e R s m args below meth c T locs cells slots) (hx : p.tables.exec = Jvm.exec) (hd : decode c.code pc = .ok (.irem, 1)) (hy : y ≠ 0) (n : Go p e below T (mkF m (pc + 1) Ls (.int (x % y) :: st)) G) : Go p e below T (mkF m pc Ls (.int y :: .int x :: st)) G :=
  n.via fun t q => iremM X hx rfl hd rfl hy q
theorem Go.i2c (X : Stand p l e R s m args below meth c T locs cells slots) (hx : p.tables.exec = Jvm.exec) (hd : decode c.code pc = .ok (.i2c, 1)) (n : Go p e below T (mkF m (pc + 1) Ls (.int (nar .char x) :: st)) G) : Go p e below T (mkF m pc Ls (.int x :: st)) G :=
  n.via fun t q => XT.i2c X.here hx rfl hd rfl q
theorem Go.i2b (X : Stand p l e R s m args below meth c T locs cells slots) (hx : p.tables.exec = Jvm.exec) (hd : decode c.code pc = .ok (.i2b, 1)) (n : Go p e below T (mkF m (pc + 1) Ls (.int (nar .byte x) :: st)) G) : Go p e below T (mkF m pc Ls (.int x :: st)) G :=
  n.via fun t q => XT.i2b X.here hx rfl hd rfl q
theorem Go.iinc (X : Stand p l e R s m args below meth c T locs cells slots) (hx : p.tables.exec = Jvm.exec) {k : Nat} {cst : Int} {L' : Array Slot} (hd : decode c.code pc = .ok (.iinc k cst, 3)) (hl : Ls[k]? = some (.val (.int x))) (hl' : storeLocals Ls k (.int (x + Int32.ofInt cst)) = some L') (n : Go p e below T (mkF m (pc + 3) L' st) G) : Go p e below T (mkF m pc Ls st) G :=
  n.via fun t q => XS.iinc X.here hx rfl hd hl hl' q
theorem Go.istore_n (X : Stand p l e R s m args below meth c T locs cells slots) (hx : p.tables.exec = Jvm.exec) {k : Fin 4} {L' : Array Slot} (hd : decode c.code pc = .ok (.istore_n k, 1)) (hl : storeLocals Ls k.val (.int x) = some L') (n : Go p e below T (mkF m (pc + 1) L' st) G) : Go p e below T (mkF m pc Ls (.int x :: st)) G :=
  n.via fun t q => XS.istoreN X.here hx rfl hd rfl hl q
theorem Go.istore (X : Stand p l e R s m args below meth c T locs cells slots) (hx : p.tables.exec = Jvm.exec) {k : Nat} {L' : Array Slot} (hd : decode c.code pc = .ok (.istore k, 2)) (hl : storeLocals Ls k (.int x) = some L') (n : Go p e below T (mkF m (pc + 2) L' st) G) : Go p e below T (mkF m pc Ls (.int x :: st)) G :=
  n.via fun t q => XS.istore X.here hx rfl hd rfl hl q
end Bin
section Ref
variable {v w : Value}
theorem Go.astore_n (X : Stand p l e R s m args below meth c T locs cells slots) (hx : p.tables.exec = Jvm.exec) {k : Fin 4} {L' : Array Slot} (hd : decode c.code pc = .ok (.astore_n k, 1)) (hv : v.isRef = true) (hl : storeLocals Ls k.val v = some L') (n : Go p e below T (mkF m (pc + 1) L' st) G) : Go p e below T (mkF m pc Ls (v :: st)) G :=
  n.via fun t q => XS.astoreN X.here hx rfl hd rfl hv hl q
theorem Go.astore (X : Stand p l e R s m args below meth c T locs cells slots) (hx : p.tables.exec = Jvm.exec) {k : Nat} {L' : Array Slot} (hd : decode c.code pc = .ok (.astore k, 2)) (hv : v.isRef = true) (hl : storeLocals Ls k v = some L') (n : Go p e below T (mkF m (pc + 2) L' st) G) : Go p e below T (mkF m pc Ls (v :: st)) G :=
  n.via fun t q => XS.astore X.here hx rfl hd rfl hv hl q
theorem Go.dup (X : Stand p l e R s m args below meth c T locs cells slots) (hx : p.tables.exec = Jvm.exec) (hd : decode c.code pc = .ok (.dup, 1)) (hc : v.category = 1) (n : Go p e below T (mkF m (pc + 1) Ls (v :: v :: st)) G) : Go p e below T (mkF m pc Ls (v :: st)) G :=
  n.via fun t q => XS.dup X.here hx rfl hd rfl hc q
theorem Go.pop (X : Stand p l e R s m args below meth c T locs cells slots) (hx : p.tables.exec = Jvm.exec) (hd : decode c.code pc = .ok (.pop, 1)) (hc : v.category = 1) (n : Go p e below T (mkF m (pc + 1) Ls st) G) : Go p e below T (mkF m pc Ls (v :: st)) G :=
  n.via fun t q => XT.pop X.here hx rfl hd rfl hc q
theorem Go.goto (X : Stand p l e R s m args below meth c T locs cells slots) (hx : p.tables.exec = Jvm.exec) {o : Int} (hd : decode c.code pc = .ok (.goto o, 3)) (hp : 0 ≤ (pc : Int) + o ∧ ((pc : Int) + o).toNat = pc') (n : Go p e below T (mkF m pc' Ls st) G) : Go p e below T (mkF m pc Ls st) G :=
  n.via fun t q => XS.goto X.here hx rfl (pc0 := pc) rfl hd hp.1 hp.2 q
/-! forks: P the condition -/
theorem Go.icmp (X : Stand p l e R s m args below meth c T locs cells slots) (hx : p.tables.exec = Jvm.exec) {cd : ClassFile.Cond} {o : Int} {x y : Int32} {P : Prop} [Decidable P] (hd : decode c.code pc = .ok (.if_icmp cd o, 3)) (hp : 0 ≤ (pc : Int) + o ∧ ((pc : Int) + o).toNat = pc') (hc : if_icmp.holds cd x y = decide P)
    (n1 : P → Go p e below T (mkF m pc' Ls st) G) (n2 : ¬ P → Go p e below T (mkF m (pc + 3) Ls st) G) : Go p e below T (mkF m pc Ls (.int y :: .int x :: st)) G := by
  by_cases q : P
  · exact (n1 q).via fun t k => XS.icmpYes X.here hx rfl (pc0 := pc) rfl hd rfl (by rw [hc]; exact decide_eq_true q) hp.1 hp.2 k
  · exact (n2 q).via fun t k => XS.icmpNo X.here hx rfl hd rfl (by rw [hc]; exact decide_eq_false q) k
theorem Go.ifc (X : Stand p l e R s m args below meth c T locs cells slots) (hx : p.tables.exec = Jvm.exec) {cd : ClassFile.Cond} {o : Int} {x : Int32} {P : Prop} [Decidable P] (hd : decode c.code pc = .ok (.ifCond cd o, 3)) (hp : 0 ≤ (pc : Int) + o ∧ ((pc : Int) + o).toNat = pc') (hc : ifCond.holds cd x = decide P)
    (n1 : P → Go p e below T (mkF m pc' Ls st) G) (n2 : ¬ P → Go p e below T (mkF m (pc + 3) Ls st) G) : Go p e below T (mkF m pc Ls (.int x :: st)) G := by
  by_cases q : P
  · exact (n1 q).via fun t k => XS.ifYes X.here hx rfl (pc0 := pc) rfl hd rfl (by rw [hc]; exact decide_eq_true q) hp.1 hp.2 k
  · exact (n2 q).via fun t k => XS.ifNo X.here hx rfl hd rfl (by rw [hc]; exact decide_eq_false q) k
theorem Go.acmp (X : Stand p l e R s m args below meth c T locs cells slots) (hx : p.tables.exec = Jvm.exec) {cd : ClassFile.ACond} {o : Int} {P : Prop} [Decidable P] (hd : decode c.code pc = .ok (.if_acmp cd o, 3)) (hp : 0 ≤ (pc : Int) + o ∧ ((pc : Int) + o).toNat = pc') (hv : v.isRef = true) (hw : w.isRef = true) (hc : XT.acmp cd v w = decide P)
    (n1 : P → Go p e below T (mkF m pc' Ls st) G) (n2 : ¬ P → Go p e below T (mkF m (pc + 3) Ls st) G) : Go p e below T (mkF m pc Ls (w :: v :: st)) G := by
  by_cases q : P
  · exact (n1 q).via fun t k => XT.acmpYes X.here hx rfl (pc0 := pc) rfl hd rfl hv hw (by rw [hc]; exact decide_eq_true q) hp.1 hp.2 k
  · exact (n2 q).via fun t k => XT.acmpNo X.here hx rfl hd rfl hv hw (by rw [hc]; exact decide_eq_false q) k
end Ref
theorem ic_eq (x y : Int32) : if_icmp.holds .eq x y = decide (x = y) := by simp [if_icmp.holds]; rfl
theorem ic_ne (x y : Int32) : if_icmp.holds .ne x y = decide (¬ x = y) := by simp [if_icmp.holds]; rfl
theorem ic_lt (x y : Int32) : if_icmp.holds .lt x y = decide (x < y) := by simp [if_icmp.holds]
theorem ic_ge (x y : Int32) : if_icmp.holds .ge x y = decide (y ≤ x) := by simp [if_icmp.holds]
theorem ic_gt (x y : Int32) : if_icmp.holds .gt x y = decide (y < x) := by simp [if_icmp.holds]
theorem ic_le (x y : Int32) : if_icmp.holds .le x y = decide (x ≤ y) := by simp [if_icmp.holds]
theorem iz_eq (x : Int32) : ifCond.holds .eq x = decide (x = 0) := by rw [if0]; exact ic_eq x 0
theorem iz_ne (x : Int32) : ifCond.holds .ne x = decide (¬ x = 0) := by rw [if0]; exact ic_ne x 0
theorem iz_lt (x : Int32) : ifCond.holds .lt x = decide (x < 0) := by rw [if0]; exact ic_lt x 0
theorem iz_ge (x : Int32) : ifCond.holds .ge x = decide (0 ≤ x) := by rw [if0]; exact ic_ge x 0
theorem iz_gt (x : Int32) : ifCond.holds .gt x = decide (0 < x) := by rw [if0]; exact ic_gt x 0
theorem iz_le (x : Int32) : ifCond.holds .le x = decide (x ≤ 0) := by rw [if0]; exact ic_le x 0
theorem ac_eq (x y : Value) : XT.acmp .eq x y = decide (x = y) := rfl
theorem ac_ne (x y : Value) : XT.acmp .ne x y = decide (¬ x = y) := rfl
/-- a condition's worth as an int -/
def bI (P : Prop) [Decidable P] : Int32 := if P then 1 else 0
theorem bI_t {P : Prop} [Decidable P] (h : P) : bI P = 1 := if_pos h
theorem bI_f {P : Prop} [Decidable P] (h : ¬ P) : bI P = 0 := if_neg h
/-! returns -/
section Rets
variable {Q : Option Value → Heap → List Loc → Prop} {C S : Nat}
theorem Go.ret_n (X : Stand p l e R s m args below meth c T locs cells slots) (hx : p.tables.exec = Jvm.exec) {t : FieldType} {z : Int32} (hret : meth.sig.returnType = some t) (hlk : meth.locks = false) (ht : t = .boolean ∨ t = .byte ∨ t = .char ∨ t = .short) (hd : decode c.code pc = .ok (.ireturn, 1)) (hC : cells ≤ C) (hS : slots ≤ S) (hQ : Q (some (.int (nar t z))) T.heap locs) : Go p e below T (mkF m pc Ls (.int z :: rest)) (RetG s Q C S) := by
  obtain ⟨fs, hr, hrun, hended, hW, hsame⟩ := X.leave (v := some (.int (nar t z))) (fun h => by rw [hret] at h; cases h) hlk
  exact ⟨_, _, retN X hx hret ht hd hr, hrun, hended, _, _, rfl, hQ, ⟨_, rfl⟩, hW, hsame.mono hC hS⟩
theorem Go.ret_i (X : Stand p l e R s m args below meth c T locs cells slots) (hx : p.tables.exec = Jvm.exec) {z : Int32} (hret : meth.sig.returnType = some .int) (hlk : meth.locks = false) (hd : decode c.code pc = .ok (.ireturn, 1)) (hC : cells ≤ C) (hS : slots ≤ S) (hQ : Q (some (.int z)) T.heap locs) : Go p e below T (mkF m pc Ls (.int z :: rest)) (RetG s Q C S) := by
  obtain ⟨fs, hr, hrun, hended, hW, hsame⟩ := X.leave (v := some (.int z)) (fun h => by rw [hret] at h; cases h) hlk
  exact ⟨_, _, retOut X hx hret rfl (Or.inl ⟨rfl, Or.inl rfl, z, rfl⟩) hd hr, hrun, hended, _, _, rfl, hQ, ⟨_, rfl⟩, hW, hsame.mono hC hS⟩
theorem Go.ret_a (X : Stand p l e R s m args below meth c T locs cells slots) (hx : p.tables.exec = Jvm.exec) {t : FieldType} {v : Value} (hret : meth.sig.returnType = some t) (hlk : meth.locks = false) (ht : t.isReference = true) (hv : v.isRef = true) (hn : narrow t v = v) (hd : decode c.code pc = .ok (.areturn, 1)) (hC : cells ≤ C) (hS : slots ≤ S) (hQ : Q (some v) T.heap locs) : Go p e below T (mkF m pc Ls (v :: rest)) (RetG s Q C S) := by
  obtain ⟨fs, hr, hrun, hended, hW, hsame⟩ := X.leave (v := some v) (fun h => by rw [hret] at h; cases h) hlk
  exact ⟨_, _, retOut X hx hret hn (Or.inr (Or.inr (Or.inr (Or.inr ⟨rfl, ht, hv⟩)))) hd hr, hrun, hended, _, _, rfl, hQ, ⟨_, rfl⟩, hW, hsame.mono hC hS⟩
theorem Go.ret_v (X : Stand p l e R s m args below meth c T locs cells slots) (hx : p.tables.exec = Jvm.exec) (hret : meth.sig.returnType = none) (hlk : meth.locks = false) (hd : decode c.code pc = .ok (.return_, 1)) (hC : cells ≤ C) (hS : slots ≤ S) (hQ : Q none T.heap locs) : Go p e below T (mkF m pc Ls []) (RetG s Q C S) := by
  obtain ⟨fs, hr, hrun, hended, hW, hsame⟩ := X.leave (v := none) (fun _ => rfl) hlk
  exact ⟨_, _, X.returnOut hx hret hd hr, hrun, hended, _, _, rfl, hQ, ⟨_, rfl⟩, hW, hsame.mono hC hS⟩
end Rets
/-! heap steps -/
theorem Go.getS (X : Stand p l e R s m args below meth c T locs cells slots) (hx : p.tables.exec = Jvm.exec) (hZ : Z.Warmed39 s.vm) (hown : s.vm.findClass own = some m.cls) {O n d : String} {v : Value} (w : (Cond.fieldLink own index O n d).before a0 Z = true) (eT : T.heap = h) (F : Sta Z h O n d v) (hd : decode c.code pc = .ok (.getstatic index, 3))
    (k : ∀ T', Stand p l e R s m args below meth c T' locs cells slots → T'.heap = h → Go p e below T' (mkF m (pc + 3) Ls (v :: st)) G) : Go p e below T (mkF m pc Ls st) G := by
  obtain ⟨T', X', e', f⟩ := RoadKit.getS (host := "") X hx hZ hown w Via.refl eT F (g := mkF m pc Ls st) rfl hd
  exact (k T' X' e').via f
theorem Go.getF (X : Stand p l e R s m args below meth c T locs cells slots) (hx : p.tables.exec = Jvm.exec) (hZ : Z.Warmed39 s.vm) (hown : s.vm.findClass own = some m.cls) {O n d : String} {v : Value} {a : Addr} (w : (Cond.fieldLink own index O n d).before a0 Z = true) (eT : T.heap = h) (F : Fld Z h a O n d v) (hd : decode c.code pc = .ok (.getfield index, 3))
    (k : ∀ T', Stand p l e R s m args below meth c T' locs cells slots → T'.heap = h → Go p e below T' (mkF m (pc + 3) Ls (v :: st)) G) : Go p e below T (mkF m pc Ls (.ref a :: st)) G := by
  obtain ⟨T', X', e', f⟩ := RoadKit.getF (host := "") X hx hZ hown (Or.inl w) Via.refl eT F (g := mkF m pc Ls (.ref a :: st)) rfl rfl hd
  exact (k T' X' e').via f
theorem Go.putF (X : Stand p l e R s m args below meth c T locs cells slots) (hx : p.tables.exec = Jvm.exec) (hZ : Z.Warmed39 s.vm) (hown : s.vm.findClass own = some m.cls) {O n d C : String} {kk : Nat} {ty : FieldType} {v old : Value} {a : Addr} (w : (Cond.fieldLink own index O n d).before a0 Z = true) (eT : T.heap = h) (F : Fld Z h a O n d old) (E : Exa Z h a C)
    (L : (Cond.lays C O n d).before a0 Z = true ∨ ((Cond.laysFinal C O n d).before a0 Z = true ∧ own = O ∧ meth.name = "<init>")) (wi : (Cond.instantiable C kk).before a0 Z = true) (hty : parseFieldDescriptor d = some ty) (hn : narrow ty v = v) (hf : fits ty v = true) (hd : decode c.code pc = .ok (.putfield index, 3))
    (k : ∀ T' h', Stand p l e R s m args below meth c T' (locs ++ [⟨a, RoadKit.slotOf Z O n d⟩]) cells slots → T'.heap = h' → Wr h h' a (RoadKit.slotOf Z O n d) v → Go p e below T' (mkF m (pc + 3) Ls st) G) : Go p e below T (mkF m pc Ls (v :: .ref a :: st)) G := by
  obtain ⟨T', h', X', e', W, f⟩ := RoadKit.putF (host := "") X hx hZ hown (Or.inl w) Via.refl eT F E L wi hty hn hf (g := mkF m pc Ls (v :: .ref a :: st)) rfl rfl hd
  exact (k T' h' X' e' W).via f
theorem Go.newO (X : Stand p l e R s m args below meth c T locs cells slots) (hx : p.tables.exec = Jvm.exec) (hZ : Z.Warmed39 s.vm) (hown : s.vm.findClass own = some m.cls) {C : String} {n : Nat} (w : (Cond.classLink own index C).before a0 Z = true) (wi : (Cond.instantiable C n).before a0 Z = true) (wz : (Cond.initialized C).before a0 Z = true) (eT : T.heap = h) (hd : decode c.code pc = .ok (.new index, 3)) (hc : cells + 1 ≤ R.cells) (hl : slots + n ≤ R.slots)
    (k : ∀ T' h' a, a = h.size → Stand p l e R s m args below meth c T' locs (cells + 1) (slots + n) → T'.heap = h' → Ext h h' → Exa Z h' a C → (∀ {O nm d : String} {ty : FieldType}, Laid Z a0 C O nm d → parseFieldDescriptor d = some ty → Fld Z h' a O nm d (defaultValue ty)) → Go p e below T' (mkF m (pc + 3) Ls (.ref a :: st)) G) : Go p e below T (mkF m pc Ls st) G := by
  obtain ⟨T', h', X', e', E, A, D, -, f⟩ := RoadKit.newO X hx hZ hown w wi wz eT (g := mkF m pc Ls st) rfl hd hc hl
  exact (k T' h' _ rfl X' e' E A D).via f
theorem Go.initO (X : Stand p l e R s m args below meth c T locs cells slots) (hx : p.tables.exec = Jvm.exec) (hZ : Z.Warmed39 s.vm) (hown : s.vm.findClass own = some m.cls) {a : Addr} {mx : Nat} (w1 : (Cond.methodLink own index Lib.objectInit).before a0 Z = true) (w2 : (Cond.instanceMethod Lib.objectInit).before a0 Z = true) (w3 : (Cond.code Lib.objectInit ⟨#[0xb1]⟩ 1 none).before a0 Z = true) (eT : T.heap = h) (hml : c.maxLocals = mx) (hsz : Ls.size = mx) (hd : decode c.code pc = .ok (.invokespecial index, 3)) (hf : 1 ≤ R.frames) {W : Nat} (hW : (st.map fun v => v.category).sum ≤ W) (hl : W + 12 ≤ R.locals)
    (k : ∀ T', Stand p l e R s m args below meth c T' locs cells slots → T'.heap = h → Go p e below T' (mkF m (pc + 3) Ls st) G) : Go p e below T (mkF m pc Ls (.ref a :: st)) G := by
  obtain ⟨T', X', e', f⟩ := RoadKit.initO X hx hZ hown w1 w2 w3 eT (g := mkF m pc Ls (.ref a :: st)) rfl (hsz.trans hml.symm) rfl hd hf (W := W) (by show 2 * 0 + _ ≤ _; omega) hl
  exact (k T' X' e').via f
/-! calls -/
section Calls
variable {y z : MethodName} {bytes : ByteArray} {maxL : Nat} {ret : Option FieldType} {rm : Room} {Q : Option Value → Heap → List Loc → Prop} {argsL : List Value} {ps : List FieldType} {r : Option FieldType} {mx W : Nat} {a : Addr} {C : String}
theorem Go.callS (X : Stand p l e R s m args below meth c T locs cells slots) (hx : p.tables.exec = Jvm.exec) (hZ : Z.Warmed39 s.vm) (hown : s.vm.findClass own = some m.cls) (w1 : (Cond.methodLink own index y).before a0 Z = true) (w2 : (Cond.static y).before a0 Z = true) (w3 : (Cond.initialized y.cls).before a0 Z = true) (w4 : (Cond.code y bytes maxL ret).before a0 Z = true)
    (hy : y.cls ≠ "java/lang/invoke/MethodHandle" ∧ y.cls ≠ "java/lang/invoke/VarHandle") (eT : T.heap = h) (hM : Met l y bytes maxL ret [] rm Z argsL.toArray h Q) (hml : c.maxLocals = mx) (hsz : Ls.size = mx) (pd : parseMethodDescriptor y.desc = some ⟨ps, r⟩) (hlen : argsL.length = ps.length) (hs : st = argsL.reverse ++ rest) (hW : (rest.map fun v => v.category).sum ≤ W)
    (hf : rm.frames + 1 ≤ R.frames) (hl : W + (maxL + 11) + rm.locals ≤ R.locals) (hc : cells + rm.cells ≤ R.cells) (hsl : slots + rm.slots ≤ R.slots) (hd : decode c.code pc = .ok (.invokestatic index, 3))
    (k : ∀ v T' L, Stand p l e R s m args below meth c T' (locs ++ L) (cells + rm.cells) (slots + rm.slots) → Q v T'.heap L → Go p e below T' (mkF m (pc + 3) Ls (v.toList ++ rest)) G) : Go p e below T (mkF m pc Ls st) G := by
  obtain ⟨v, vm₁, ⟨T', L', k', n'⟩, -, X', ⟨Lc, hQ, l1, y1, z1⟩, f⟩ := Jvm.LawKit.callS X hx hown (mvT hZ w1) (mvT hZ w2) (mvT hZ w3) (mvT hZ w4) hy (backOf (W := W) hM hZ w4 w3 hf hl) (g := mkF m pc Ls st) rfl (hsz.trans hml.symm) (argsL := argsL) (rest := rest) (lenOf pd hlen) hs (by show 2 * 0 + _ ≤ _; omega) hd (fun _ _ => ⟨rfl, eT, hc, hsl⟩)
  dsimp only [Pt.U, Pt.locs, Pt.cells, Pt.slots] at X' l1 y1 z1 f hQ
  subst l1 y1 z1
  exact (k v T' Lc X' hQ).via f
theorem Go.callV (X : Stand p l e R s m args below meth c T locs cells slots) (hx : p.tables.exec = Jvm.exec) (hZ : Z.Warmed39 s.vm) (hown : s.vm.findClass own = some m.cls) (w1 : (Cond.methodLink own index y).before a0 Z = true) (w2 : (Cond.declares y).before a0 Z = true) (hnf : NotFace s y) (w3 : (Cond.selects C y z).before a0 Z = true) (w4 : (Cond.instanceMethod z).before a0 Z = true) (w5 : (Cond.code z bytes maxL ret).before a0 Z = true) (w6 : (Cond.initialized z.cls).before a0 Z = true)
    (hy : y.cls ≠ "java/lang/invoke/MethodHandle" ∧ y.cls ≠ "java/lang/invoke/VarHandle") (eT : T.heap = h) (E : Exa Z h a C) (hM : Met l z bytes maxL ret [] rm Z (.ref a :: argsL).toArray h Q) (hml : c.maxLocals = mx) (hsz : Ls.size = mx) (pd : parseMethodDescriptor y.desc = some ⟨ps, r⟩) (hlen : argsL.length = ps.length) (hs : st = argsL.reverse ++ .ref a :: rest) (hW : (rest.map fun v => v.category).sum ≤ W)
    (hf : rm.frames + 1 ≤ R.frames) (hl : W + (maxL + 11) + rm.locals ≤ R.locals) (hc : cells + rm.cells ≤ R.cells) (hsl : slots + rm.slots ≤ R.slots) (hd : decode c.code pc = .ok (.invokevirtual index, 3))
    (k : ∀ v T' L, Stand p l e R s m args below meth c T' (locs ++ L) (cells + rm.cells) (slots + rm.slots) → Q v T'.heap L → Go p e below T' (mkF m (pc + 3) Ls (v.toList ++ rest)) G) : Go p e below T (mkF m pc Ls st) G := by
  obtain ⟨cq, kq, q1, q2, q3⟩ := isOf hZ eT E
  obtain ⟨v, vm₁, ⟨T', L', k', n'⟩, -, X', ⟨Lc, hQ, l1, y1, z1⟩, f⟩ := X.virtualBack hx hown (mvT hZ w1) (mvT hZ w2) hnf (mvT hZ w3) (mvT hZ w4) hy (backOf (W := W) hM hZ w5 w6 hf hl) q1 q3 (g := mkF m pc Ls st) rfl (hsz.trans hml.symm) (Steps.refl _) (argsL := argsL) (rest := rest) (lenOf pd hlen) hs (by show 2 * 0 + _ ≤ _; omega) hd (fun _ _ => ⟨rfl, eT, hc, hsl⟩)
  dsimp only [Pt.U, Pt.locs, Pt.cells, Pt.slots] at X' l1 y1 z1 f hQ
  subst l1 y1 z1
  exact (k v T' Lc X' hQ).via fun t q => f.trans q
theorem Go.callI (X : Stand p l e R s m args below meth c T locs cells slots) (hx : p.tables.exec = Jvm.exec) (hZ : Z.Warmed39 s.vm) (hown : s.vm.findClass own = some m.cls) (hy1 : y.name = "<init>") (w1 : (Cond.methodLink own index y).before a0 Z = true) (w2 : (Cond.instanceMethod y).before a0 Z = true) (w5 : (Cond.code y bytes maxL none).before a0 Z = true) (w6 : (Cond.initialized y.cls).before a0 Z = true)
    (hy : y.cls ≠ "java/lang/invoke/MethodHandle" ∧ y.cls ≠ "java/lang/invoke/VarHandle") (eT : T.heap = h) (hM : Met l y bytes maxL none [] rm Z (.ref a :: argsL).toArray h Q) (hml : c.maxLocals = mx) (hsz : Ls.size = mx) (pd : parseMethodDescriptor y.desc = some ⟨ps, r⟩) (hlen : argsL.length = ps.length) (hs : st = argsL.reverse ++ .ref a :: rest) (hW : (rest.map fun v => v.category).sum ≤ W)
    (hf : rm.frames + 1 ≤ R.frames) (hl : W + (maxL + 11) + rm.locals ≤ R.locals) (hc : cells + rm.cells ≤ R.cells) (hsl : slots + rm.slots ≤ R.slots) (hd : decode c.code pc = .ok (.invokespecial index, 3))
    (k : ∀ v T' L, Stand p l e R s m args below meth c T' (locs ++ L) (cells + rm.cells) (slots + rm.slots) → Q v T'.heap L → Go p e below T' (mkF m (pc + 3) Ls (v.toList ++ rest)) G) : Go p e below T (mkF m pc Ls st) G := by
  obtain ⟨v, vm₁, ⟨T', L', k', n'⟩, -, X', ⟨Lc, hQ, l1, y1, z1⟩, f⟩ := X.specialBack hx hy1 hown (mvT hZ w1) (mvT hZ w2) (mvT hZ w5) hy (backOf (W := W) hM hZ w5 w6 hf hl) (g := mkF m pc Ls st) rfl (hsz.trans hml.symm) (Steps.refl _) (a := a) (argsL := argsL) (rest := rest) (lenOf pd hlen) hs (by show 2 * 0 + _ ≤ _; omega) hd (fun _ _ => ⟨rfl, eT, hc, hsl⟩)
  dsimp only [Pt.U, Pt.locs, Pt.cells, Pt.slots] at X' l1 y1 z1 f hQ
  subst l1 y1 z1
  exact (k v T' Lc X' hQ).via fun t q => f.trans q
end Calls
/-! from the case's words -/
theorem sta_of {C n d K : String} (w : (Cond.exactly (.static C n d) K).value args s none s [] = some true) (wi : (Cond.initialized C).before args s = true) (wl : (Cond.laysStatic C n d).before args s = true) :
    ∃ x, (Term.static C n d).eval args s none [] s = some (.ref x) ∧ Sta s s.heap C n d (.ref x) ∧ Exa s s.heap x K := by
  obtain ⟨x, ev⟩ := exa_v w
  exact ⟨x, ev, Sta.start ev (Or.inr ⟨wi, wl⟩), Exa.start ev w⟩
theorem fld_of {t : Term} {C n d : String} {k : Int32} {x : Addr} (ev : t.eval args s none [] s = some (.ref x)) (w : (Cond.eq (.field t C n d) (.int k)).value args s none s [] = some true) : Fld s s.heap x C n d (.int k) := by
  have q := Cond.eq_int (Cond.before_iff.mpr w) rfl
  exact Fld.start ((fld_at ev).symm.trans q)
theorem fldR_of {t u : Term} {C n d : String} {x y : Addr} (ev : t.eval args s none [] s = some (.ref x)) (ew : u.eval args s none [] s = some (.ref y)) (w : (Cond.eq (.field t C n d) u).value args s none s [] = some true) : Fld s s.heap x C n d (.ref y) := by
  obtain ⟨v1, v2, h1, h2, h3, h4⟩ := cmp_v (Or.inl w)
  cases ew.symm.trans h2
  have q : v1 = .ref y := gotT (eq_R h1 h2 h4.2 rfl) w
  exact Fld.start ((fld_at ev).symm.trans (h1.trans (by rw [q])))
theorem rne {a b : Addr} (h : a ≠ b) : ¬ (Value.ref a = Value.ref b) := fun q => h (Value.ref.inj q)
theorem i5 (x : Int32) : (x &&& 2147483647) % 5 = 0 ∨ (x &&& 2147483647) % 5 = 1 ∨ (x &&& 2147483647) % 5 = 2 ∨ (x &&& 2147483647) % 5 = 3 ∨ (x &&& 2147483647) % 5 = 4 := by
  have a1 := c_mask x 2147483647 31 (by decide) (by decide)
  have a2 := (c_irem (x &&& 2147483647) 5 5 (by decide)).1 (by rw [a1]; exact Int.emod_nonneg _ (by decide))
  simp only [← Int32.toInt_inj, Int32.reduceToInt]
  omega
end Own
end Jvm.Own
namespace Jvm.Own
open Sem ClassFile Op Lib Jvm.Stand Jvm.Free Jvm.LawKit Jvm.RoadKit
section Arrays
variable {p : Program} {l : Launch} {e : Env} {R : Room} {s : State} {m : MethodId} {args : Array Value} {below : List Frame} {meth : Method} {c : Code} {T : State} {locs : List Loc} {cells slots : Nat} {Z : State} {a0 : Array Value} {h h' : Heap} {G : Outcome → State → Prop} {pc pc' : Nat} {Ls : Array Slot} {st rest : List Value} {own : String} {index : Nat}
variable {a b : Addr} {kk : ClassId} {ty : FieldType} {n i : Nat} {f : Nat → Value} {j x : Int32} {v : Value} {sl : Nat} {ws : List Addr}
/-- in the heap h an array of kind ty and of n places; the i-th holds f i -/
def AV (Z : State) (h : Heap) (a : Addr) (kk : ClassId) (ty : FieldType) (n : Nat) (f : Nat → Value) : Prop :=
  ∃ c : Cell, Arr Z h a c ty ∧ c.cls = kk ∧ c.slots.size = n ∧ n < 2 ^ 31 ∧ (∀ i, i < n → c.slots[i]? = some (f i)) ∧ ∀ i, i < n → fits ty (f i) = true
def upd (f : Nat → Value) (i : Nat) (v : Value) : Nat → Value := fun j => if j = i then v else f j
theorem upd_eq : upd f i v i = v := if_pos rfl
theorem upd_ne {j : Nat} (q : j ≠ i) : upd f i v j = f j := if_neg q
theorem AV.lt (F : AV Z h a kk ty n f) : a < h.size := by obtain ⟨c, A, -⟩ := F; exact A.lt
theorem AV.ext (F : AV Z h a kk ty n f) (E : Ext h h') : AV Z h' a kk ty n f := by obtain ⟨c, A, r⟩ := F; exact ⟨c, A.ext E, r⟩
theorem AV.other (F : AV Z h b kk ty n f) (W : Wr h h' a sl v) (q : b ≠ a) : AV Z h' b kk ty n f := by obtain ⟨c, A, r⟩ := F; exact ⟨c, A.other W q, r⟩
theorem AV.keep (F : AV Z h a kk ty n f) (K : Keep h h' ws) (q : a ∉ ws) : AV Z h' a kk ty n f := by obtain ⟨c, A, r⟩ := F; exact ⟨c, ⟨K.2.1 a c A.1 q, A.2⟩, r⟩
theorem AV.cong {g : Nat → Value} (F : AV Z h a kk ty n f) (q : ∀ i, i < n → f i = g i) : AV Z h a kk ty n g := by
  obtain ⟨c, A, r1, r2, r3, r4, r5⟩ := F
  exact ⟨c, A, r1, r2, r3, fun i hi => by rw [← q i hi]; exact r4 i hi, fun i hi => by rw [← q i hi]; exact r5 i hi⟩
theorem AV.set (F : AV Z h a kk ty n f) (W : Wr h h' a i v) (hv : fits ty v = true) (hi : i < n) : AV Z h' a kk ty n (upd f i v) := by
  obtain ⟨c, A, r1, r2, r3, r4, r5⟩ := F
  refine ⟨_, A.same W, r1, by rw [sz_set]; exact r2, r3, fun y hy => ?_, fun y hy => ?_⟩
  · by_cases q : y = i
    · subst q; rw [upd_eq]; simp [Cell.setSlot, r2, hi]
    · rw [upd_ne q, ← r4 y hy]; simp only [Cell.setSlot]; exact Array.getElem?_setIfInBounds_ne (Ne.symm q)
  · by_cases q : y = i
    · subst q; rw [upd_eq]; exact hv
    · rw [upd_ne q]; exact r5 y hy
theorem ix_nat (hj : j.toInt = (i : Int)) : ¬ j < 0 ∧ j.toNatClampNeg = i := by
  constructor
  · rw [Int32.lt_iff_toInt_lt, hj, show (0 : Int32).toInt = 0 from rfl]; omega
  · simp only [Int32.toNatClampNeg, hj]; rfl
theorem ix_in {c : Cell} (hs : c.slots.size = n) (hj : j.toInt = (i : Int)) (hi : i < n) : ¬ (j < 0 ∨ c.slots.size ≤ j.toNatClampNeg) := by
  obtain ⟨q1, q2⟩ := ix_nat hj
  rw [q2, hs]; exact fun q => q.elim q1 (fun r => by omega)
theorem Go.newP (X : Stand p l e R s m args below meth c T locs cells slots) (hx : p.tables.exec = Jvm.exec) (hZ : Z.Warmed39 s.vm) {aty : ArrayType} (hty : newarray.typeOf aty = ty) (w : (Cond.arrayClass ty).before a0 Z = true) (eT : T.heap = h) (hd : decode c.code pc = .ok (.newarray aty, 2)) {z : Int32} {cap : Nat} (hz : z.toInt = (n : Int)) (hcap : n ≤ cap) (hb : cap * 8 ≤ 536870912) (hc : cells + 1 ≤ R.cells) (hl : slots + cap ≤ R.slots)
    (k : ∀ T' h' a cA, a = h.size → Stand p l e R s m args below meth c T' locs (cells + 1) (slots + cap) → T'.heap = h' → Ext h h' → AV Z h' a cA ty n (fun _ => defaultValue ty) → Go p e below T' (mkF m (pc + 2) Ls (.ref a :: st)) G) : Go p e below T (mkF m pc Ls (.int z :: st)) G := by
  obtain ⟨q1, q2⟩ := ix_nat hz
  subst hty
  obtain ⟨T', h', cA, X', e', E, A, f⟩ := RoadKit.newP X hx hZ w eT (g := mkF m pc Ls (.int z :: st)) rfl hd rfl q1 (by rw [q2]; exact hcap) hb hc hl
  refine (k T' h' _ cA rfl X' e' E ⟨_, A, rfl, by rw [sz_new, q2], by have := z.toInt_lt; omega, fun i hi => ?_, fun i hi => ?_⟩).via f
  · simp only [newA, q2]; rw [Array.getElem?_replicate, if_pos hi]
  · cases aty <;> rfl
theorem Go.arraylength (X : Stand p l e R s m args below meth c T locs cells slots) (hx : p.tables.exec = Jvm.exec) (hZ : Z.Warmed39 s.vm) (eT : T.heap = h) (A : AV Z h a kk ty n f) {z : Int32} (hz : z.toInt = (n : Int)) (hd : decode c.code pc = .ok (.arraylength, 1)) (k : Go p e below T (mkF m (pc + 1) Ls (.int z :: st)) G) : Go p e below T (mkF m pc Ls (.ref a :: st)) G := by
  obtain ⟨cl, A, r1, r2, r3, r4, r5⟩ := A
  have q : cl.slots.size.toInt32 = z := by rw [r2]; exact Int32.toInt_inj.mp (by rw [len_toInt r3, hz])
  refine k.via fun t u => X.arraylength hx (by rw [eT]; exact A.1) (State.isArrayOf_alike hZ.alike A.2.1) (g := mkF m pc Ls (.ref a :: st)) rfl rfl hd t ?_
  rw [q]; exact u
theorem Go.baload (X : Stand p l e R s m args below meth c T locs cells slots) (hx : p.tables.exec = Jvm.exec) (hZ : Z.Warmed39 s.vm) (eT : T.heap = h) (A : AV Z h a kk .byte n f) (hj : j.toInt = (i : Int)) (hi : i < n) (hv : f i = v) (hd : decode c.code pc = .ok (.baload, 1)) (k : Go p e below T (mkF m (pc + 1) Ls (v :: st)) G) : Go p e below T (mkF m pc Ls (.int j :: .ref a :: st)) G := by
  obtain ⟨cl, A, r1, r2, r3, r4, r5⟩ := A
  exact k.via fun t u => X.baloadBytes hx (by rw [eT]; exact A.1) (State.isArrayOf_alike hZ.alike A.2.1) A.2.2 (ix_in r2 hj hi) (by rw [(ix_nat hj).2, ← hv]; exact r4 i hi) (g := mkF m pc Ls (.int j :: .ref a :: st)) rfl rfl hd t u
theorem Go.zaload (X : Stand p l e R s m args below meth c T locs cells slots) (hx : p.tables.exec = Jvm.exec) (hZ : Z.Warmed39 s.vm) (eT : T.heap = h) (A : AV Z h a kk .boolean n f) (hj : j.toInt = (i : Int)) (hi : i < n) (hv : f i = v) (hd : decode c.code pc = .ok (.baload, 1)) (k : Go p e below T (mkF m (pc + 1) Ls (v :: st)) G) : Go p e below T (mkF m pc Ls (.int j :: .ref a :: st)) G := by
  obtain ⟨cl, A, r1, r2, r3, r4, r5⟩ := A
  exact k.via fun t u => X.baloadBooleans hx (by rw [eT]; exact A.1) (State.isArrayOf_alike hZ.alike A.2.1) A.2.2 (ix_in r2 hj hi) (by rw [(ix_nat hj).2, ← hv]; exact r4 i hi) (g := mkF m pc Ls (.int j :: .ref a :: st)) rfl rfl hd t u
theorem Go.caload (X : Stand p l e R s m args below meth c T locs cells slots) (hx : p.tables.exec = Jvm.exec) (hZ : Z.Warmed39 s.vm) (eT : T.heap = h) (A : AV Z h a kk .char n f) (hj : j.toInt = (i : Int)) (hi : i < n) (hv : f i = v) (hd : decode c.code pc = .ok (.caload, 1)) (k : Go p e below T (mkF m (pc + 1) Ls (v :: st)) G) : Go p e below T (mkF m pc Ls (.int j :: .ref a :: st)) G := by
  obtain ⟨cl, A, r1, r2, r3, r4, r5⟩ := A
  exact k.via fun t u => X.caload hx (by rw [eT]; exact A.1) (State.isArrayOf_alike hZ.alike A.2.1) A.2.2 (ix_in r2 hj hi) (by rw [(ix_nat hj).2, ← hv]; exact r4 i hi) (g := mkF m pc Ls (.int j :: .ref a :: st)) rfl rfl hd t u
theorem Go.iaload (X : Stand p l e R s m args below meth c T locs cells slots) (hx : p.tables.exec = Jvm.exec) (hZ : Z.Warmed39 s.vm) (eT : T.heap = h) (A : AV Z h a kk .int n f) (hj : j.toInt = (i : Int)) (hi : i < n) (hv : f i = v) (hd : decode c.code pc = .ok (.iaload, 1)) (k : Go p e below T (mkF m (pc + 1) Ls (v :: st)) G) : Go p e below T (mkF m pc Ls (.int j :: .ref a :: st)) G := by
  obtain ⟨cl, A, r1, r2, r3, r4, r5⟩ := A
  exact k.via fun t u => X.iaload hx (by rw [eT]; exact A.1) (State.isArrayOf_alike hZ.alike A.2.1) A.2.2 (ix_in r2 hj hi) (by rw [(ix_nat hj).2, ← hv]; exact r4 i hi) (g := mkF m pc Ls (.int j :: .ref a :: st)) rfl rfl hd t u
theorem Go.aaload (X : Stand p l e R s m args below meth c T locs cells slots) (hx : p.tables.exec = Jvm.exec) (hZ : Z.Warmed39 s.vm) (eT : T.heap = h) (A : AV Z h a kk ty n f) (hty : ty.isReference = true) (hj : j.toInt = (i : Int)) (hi : i < n) (hv : f i = v) (hd : decode c.code pc = .ok (.aaload, 1)) (k : Go p e below T (mkF m (pc + 1) Ls (v :: st)) G) : Go p e below T (mkF m pc Ls (.int j :: .ref a :: st)) G := by
  obtain ⟨cl, A, r1, r2, r3, r4, r5⟩ := A
  exact k.via fun t u => X.aaload hx (by rw [eT]; exact A.1) (State.isArrayOf_alike hZ.alike A.2.1) hty A.2.2 (ix_in r2 hj hi) (by rw [(ix_nat hj).2, ← hv]; exact r4 i hi) (g := mkF m pc Ls (.int j :: .ref a :: st)) rfl rfl hd t u
theorem Go.bastore (X : Stand p l e R s m args below meth c T locs cells slots) (hx : p.tables.exec = Jvm.exec) (hZ : Z.Warmed39 s.vm) (eT : T.heap = h) (A : AV Z h a kk .byte n f) (hj : j.toInt = (i : Int)) (hi : i < n) (hd : decode c.code pc = .ok (.bastore, 1))
    (k : ∀ T' h', Stand p l e R s m args below meth c T' (locs ++ [⟨a, i⟩]) cells slots → T'.heap = h' → Wr h h' a i (.int (nar .byte x)) → AV Z h' a kk .byte n (upd f i (.int (nar .byte x))) → Go p e below T' (mkF m (pc + 1) Ls st) G) : Go p e below T (mkF m pc Ls (.int x :: .int j :: .ref a :: st)) G := by
  have A' := A
  obtain ⟨cl, A, r1, r2, r3, r4, r5⟩ := A
  obtain ⟨T', h', X', e', W, f'⟩ := stB X hx hZ eT A (j := j) (x := x) (ix_in r2 hj hi) (g := mkF m pc Ls (.int x :: .int j :: .ref a :: st)) rfl rfl hd
  rw [(ix_nat hj).2] at X' W
  exact (k T' h' X' e' W (A'.set W (fits_nar_byte x) hi)).via f'
theorem Go.zastore (X : Stand p l e R s m args below meth c T locs cells slots) (hx : p.tables.exec = Jvm.exec) (hZ : Z.Warmed39 s.vm) (eT : T.heap = h) (A : AV Z h a kk .boolean n f) (hj : j.toInt = (i : Int)) (hi : i < n) (hd : decode c.code pc = .ok (.bastore, 1))
    (k : ∀ T' h', Stand p l e R s m args below meth c T' (locs ++ [⟨a, i⟩]) cells slots → T'.heap = h' → Wr h h' a i (.int (nar .boolean x)) → AV Z h' a kk .boolean n (upd f i (.int (nar .boolean x))) → Go p e below T' (mkF m (pc + 1) Ls st) G) : Go p e below T (mkF m pc Ls (.int x :: .int j :: .ref a :: st)) G := by
  have A' := A
  obtain ⟨cl, A, r1, r2, r3, r4, r5⟩ := A
  obtain ⟨T', h', X', e', W, f'⟩ := stZ X hx hZ eT A (j := j) (x := x) (ix_in r2 hj hi) (g := mkF m pc Ls (.int x :: .int j :: .ref a :: st)) rfl rfl hd
  rw [(ix_nat hj).2] at X' W
  exact (k T' h' X' e' W (A'.set W (fits_nar_bool x) hi)).via f'
theorem Go.castore (X : Stand p l e R s m args below meth c T locs cells slots) (hx : p.tables.exec = Jvm.exec) (hZ : Z.Warmed39 s.vm) (eT : T.heap = h) (A : AV Z h a kk .char n f) (hj : j.toInt = (i : Int)) (hi : i < n) (hd : decode c.code pc = .ok (.castore, 1))
    (k : ∀ T' h', Stand p l e R s m args below meth c T' (locs ++ [⟨a, i⟩]) cells slots → T'.heap = h' → Wr h h' a i (.int (nar .char x)) → AV Z h' a kk .char n (upd f i (.int (nar .char x))) → Go p e below T' (mkF m (pc + 1) Ls st) G) : Go p e below T (mkF m pc Ls (.int x :: .int j :: .ref a :: st)) G := by
  have A' := A
  obtain ⟨cl, A, r1, r2, r3, r4, r5⟩ := A
  obtain ⟨T', h', X', e', W, f'⟩ := stC X hx hZ eT A (j := j) (x := x) (ix_in r2 hj hi) (g := mkF m pc Ls (.int x :: .int j :: .ref a :: st)) rfl rfl hd
  rw [(ix_nat hj).2] at X' W
  exact (k T' h' X' e' W (A'.set W (fits_nar_char x) hi)).via f'
theorem Go.iastore (X : Stand p l e R s m args below meth c T locs cells slots) (hx : p.tables.exec = Jvm.exec) (hZ : Z.Warmed39 s.vm) (eT : T.heap = h) (A : AV Z h a kk .int n f) (hj : j.toInt = (i : Int)) (hi : i < n) (hd : decode c.code pc = .ok (.iastore, 1))
    (k : ∀ T' h', Stand p l e R s m args below meth c T' (locs ++ [⟨a, i⟩]) cells slots → T'.heap = h' → Wr h h' a i (.int x) → AV Z h' a kk .int n (upd f i (.int x)) → Go p e below T' (mkF m (pc + 1) Ls st) G) : Go p e below T (mkF m pc Ls (.int x :: .int j :: .ref a :: st)) G := by
  have A' := A
  obtain ⟨cl, A, r1, r2, r3, r4, r5⟩ := A
  obtain ⟨T', h', X', e', W, f'⟩ := stI X hx hZ eT A (j := j) (x := x) (ix_in r2 hj hi) (g := mkF m pc Ls (.int x :: .int j :: .ref a :: st)) rfl rfl hd
  rw [(ix_nat hj).2] at X' W
  exact (k T' h' X' e' W (A'.set W rfl hi)).via f'
theorem Go.newR (X : Stand p l e R s m args below meth c T locs cells slots) (hx : p.tables.exec = Jvm.exec) (hZ : Z.Warmed39 s.vm) (hown : s.vm.findClass own = some m.cls) {C : String} (w1 : (Cond.classLink own index C).before a0 Z = true) (w2 : (Cond.arrayOver (.object C)).before a0 Z = true) (eT : T.heap = h) (hd : decode c.code pc = .ok (.anewarray index, 3)) {z : Int32} {cap : Nat} (hz : z.toInt = (n : Int)) (hcap : n ≤ cap) (hb : cap * 8 ≤ 536870912) (hc : cells + 1 ≤ R.cells) (hl : slots + cap ≤ R.slots)
    (k : ∀ T' h' a cA, a = h.size → Stand p l e R s m args below meth c T' locs (cells + 1) (slots + cap) → T'.heap = h' → Ext h h' → AV Z h' a cA (.object C) n (fun _ => .null) → Ovr Z cA C → Go p e below T' (mkF m (pc + 3) Ls (.ref a :: st)) G) : Go p e below T (mkF m pc Ls (.int z :: st)) G := by
  obtain ⟨q1, q2⟩ := ix_nat hz
  obtain ⟨T', h', cA, X', e', E, A, -, O, f⟩ := RoadKit.newRE X hx hZ hown w1 w2 eT (g := mkF m pc Ls (.int z :: st)) rfl hd rfl q1 (by rw [q2]; exact hcap) hb hc hl rfl
  refine (k T' h' _ cA rfl X' e' E ⟨_, A, rfl, by rw [sz_new, q2], by have := z.toInt_lt; omega, fun i hi => ?_, fun i hi => rfl⟩ O).via f
  simp only [newA, q2, defaultValue]; rw [Array.getElem?_replicate, if_pos hi]
theorem Go.aastore (X : Stand p l e R s m args below meth c T locs cells slots) (hx : p.tables.exec = Jvm.exec) (hZ : Z.Warmed39 s.vm) (eT : T.heap = h) {C : String} {y : Addr} (A : AV Z h a kk (.object C) n f) (O : Ovr Z kk C) (I : Ins Z h y C true) (hj : j.toInt = (i : Int)) (hi : i < n) (hd : decode c.code pc = .ok (.aastore, 1))
    (k : ∀ T' h', Stand p l e R s m args below meth c T' (locs ++ [⟨a, i⟩]) cells slots → T'.heap = h' → Wr h h' a i (.ref y) → AV Z h' a kk (.object C) n (upd f i (.ref y)) → Go p e below T' (mkF m (pc + 1) Ls st) G) : Go p e below T (mkF m pc Ls (.ref y :: .int j :: .ref a :: st)) G := by
  have A' := A
  obtain ⟨cl, A, r1, r2, r3, r4, r5⟩ := A
  obtain ⟨T', h', X', e', W, f'⟩ := stR X hx hZ eT A (j := j) (ix_in r2 hj hi) rfl (Sto.ofV A r1 O I) (g := mkF m pc Ls (.ref y :: .int j :: .ref a :: st)) rfl rfl hd
  rw [(ix_nat hj).2] at X' W
  exact (k T' h' X' e' W (A'.set W rfl hi)).via f'
theorem Go.instY (X : Stand p l e R s m args below meth c T locs cells slots) (hx : p.tables.exec = Jvm.exec) (hZ : Z.Warmed39 s.vm) (hown : s.vm.findClass own = some m.cls) {K : String} (w : (Cond.classLink own index K).before a0 Z = true) (eT : T.heap = h) (F : Ins Z h a K true) (hd : decode c.code pc = .ok (.instanceof index, 3))
    (k : ∀ T', Stand p l e R s m args below meth c T' locs cells slots → T'.heap = h → Go p e below T' (mkF m (pc + 3) Ls (.int 1 :: st)) G) : Go p e below T (mkF m pc Ls (.ref a :: st)) G := by
  obtain ⟨T', X', e', f⟩ := RoadKit.instY X hx hZ hown w eT F (g := mkF m pc Ls (.ref a :: st)) rfl rfl hd
  exact (k T' X' e').via f
theorem Go.castY (X : Stand p l e R s m args below meth c T locs cells slots) (hx : p.tables.exec = Jvm.exec) (hZ : Z.Warmed39 s.vm) (hown : s.vm.findClass own = some m.cls) {K : String} (w : (Cond.classLink own index K).before a0 Z = true) (eT : T.heap = h) (F : Ins Z h a K true) (hd : decode c.code pc = .ok (.checkcast index, 3))
    (k : ∀ T', Stand p l e R s m args below meth c T' locs cells slots → T'.heap = h → Go p e below T' (mkF m (pc + 3) Ls (.ref a :: st)) G) : Go p e below T (mkF m pc Ls (.ref a :: st)) G := by
  obtain ⟨T', X', e', f⟩ := RoadKit.castY X hx hZ hown w eT F (g := mkF m pc Ls (.ref a :: st)) rfl rfl hd
  exact (k T' X' e').via f
theorem Go.instNo (X : Stand p l e R s m args below meth c T locs cells slots) (hx : p.tables.exec = Jvm.exec) (hZ : Z.Warmed39 s.vm) (hown : s.vm.findClass own = some m.cls) {K C : String} (w : (Cond.classLink own index K).before a0 Z = true) (eT : T.heap = h) (E : Exa Z h a C) (F : ∃ c t, Z.vm.findClass C = some c ∧ Z.vm.findClass K = some t ∧ Z.vm.assignable c t = false) (hd : decode c.code pc = .ok (.instanceof index, 3))
    (k : ∀ T', Stand p l e R s m args below meth c T' locs cells slots → T'.heap = h → Go p e below T' (mkF m (pc + 3) Ls (.int 0 :: st)) G) : Go p e below T (mkF m pc Ls (.ref a :: st)) G := by
  obtain ⟨T', X', e', f⟩ := RoadKit.instNo X hx hZ hown w eT E F (g := mkF m pc Ls (.ref a :: st)) rfl rfl hd
  exact (k T' X' e').via f
theorem Go.instNull (X : Stand p l e R s m args below meth c T locs cells slots) (hx : p.tables.exec = Jvm.exec) (hd : decode c.code pc = .ok (.instanceof index, 3)) (n : Go p e below T (mkF m (pc + 3) Ls (.int 0 :: st)) G) : Go p e below T (mkF m pc Ls (.null :: st)) G :=
  n.via fun t q => X.instanceofNull hx (g := mkF m pc Ls (.null :: st)) rfl rfl hd t q
theorem Go.dup_x1 (X : Stand p l e R s m args below meth c T locs cells slots) (hx : p.tables.exec = Jvm.exec) {w : Value} (hd : decode c.code pc = .ok (.dup_x1, 1)) (hc : v.category = 1) (hc' : w.category = 1) (n : Go p e below T (mkF m (pc + 1) Ls (v :: w :: v :: st)) G) : Go p e below T (mkF m pc Ls (v :: w :: st)) G :=
  n.via fun t q => XT.dupX1 X.here hx rfl hd rfl hc hc' q
/-- C, whose superclass is S, whose superclass is the root O, is no K -/
theorem ns_root {O K : String} {n : Nat} (w : (Cond.noSuperclass O).before a0 Z = true) (wk : (Cond.instantiable K n).before a0 Z = true) (hn : O ≠ K) : NS Z O K := by
  obtain ⟨c, k, h1, h2, h3, -, -⟩ := Cond.noSuperclass_spec w
  obtain ⟨t, kt, g1, -⟩ := Cond.instantiable_spec wk
  have ne := ids_ne h1 g1 hn
  refine ⟨c, t, h1, g1, fun fuel => ?_⟩
  cases fuel with
  | zero => rfl
  | succ f => simp [Vm.isSubclassAux, ne, h2, h3]
theorem ns_no {C S K : String} {n : Nat} (w : (Cond.superclass C S).before a0 Z = true) (wk : (Cond.instantiable K n).before a0 Z = true) (q : NS Z C K) (hn : C ≠ K) : ∃ c t, Z.vm.findClass C = some c ∧ Z.vm.findClass K = some t ∧ Z.vm.assignable c t = false := by
  obtain ⟨c, t, h0, g0, n3⟩ := q
  obtain ⟨p, k, kp, h1, h2, h3, h4, h5, -, h7⟩ := Cond.superclass_spec h0 w
  obtain ⟨t', k', g1, g2, g3, g4, -⟩ := Cond.instantiable_spec wk
  cases g0.symm.trans g1
  have g5 : k'.isInterface = false := by simp only [Bool.or_eq_false_iff] at g4; exact g4.1
  have ne := ids_ne h0 g0 hn
  refine ⟨c, t, h0, g0, ?_⟩
  show Z.vm.assignableAux (255 + 1) c t = false
  simp [Vm.assignableAux, ne, h2, g2, h5, g3, g5, Vm.isSubclass, n3]
/-- the road of a boolean answer -/
def BQ (P : Prop) (v : Option Value) : Prop := (v = some (.int 1) ∧ P) ∨ (v = some (.int 0) ∧ ¬ P)
theorem nar_b (x : Int32) : nar .byte (nar .byte x) = nar .byte x := by
  show (x.toInt8.toInt32).toInt8.toInt32 = x.toInt8.toInt32
  rw [Int8.toInt8_toInt32]
end Arrays
end Jvm.Own
namespace Jvm.Own
open Sem ClassFile Op Lib Jvm.Stand Jvm.Free Jvm.LawKit Jvm.RoadKit
section Wide
variable {p : Program} {l : Launch} {e : Env} {R : Room} {s : State} {m : MethodId} {args : Array Value} {below : List Frame} {meth : Method} {c : Code} {T : State} {locs : List Loc} {cells slots : Nat} {Z : State} {a0 : Array Value} {h h' : Heap} {G : Outcome → State → Prop} {pc pc' : Nat} {Ls : Array Slot} {st rest : List Value} {own text : String} {index k0 : Nat} {vm0 : Vm}
abbrev RetGW (s : State) (Q : Option Value → Heap → List Loc → Prop) (C S : Nat) (o : Outcome) (t : State) : Prop := ∃ v L, o = .returned v ∧ Q v t.heap L ∧ ReturnedEndW s o t L C S
abbrev MetW (l : Launch) (y : MethodName) (bytes : ByteArray) (maxL : Nat) (ret : Option FieldType) (ws : List Jvm.Cond) (rm : Room) (Z : State) (as' : Array Value) (h0 : Heap) (Q : Option Value → Heap → List Loc → Prop) : Prop :=
  MetFree l y (head1 (Jvm.Cond.code y bytes maxL ret :: ws) rm) (fun a U => a = as' ∧ Z.Warmed39 U.vm ∧ U.heap = h0) (fun _ _ _ _ _ => True) (fun _ U o U' => RetGW U Q rm.cells rm.slots o U')
theorem MetW.of {y : MethodName} {bytes : ByteArray} {maxL : Nat} {ret : Option FieldType} {ws : List Jvm.Cond} {rm : Room} {as' : Array Value} {h0 : Heap} {Q : Option Value → Heap → List Loc → Prop} (hpn : plainFor y = true) (hef : ∀ m, entryFrame m as' maxL = mkF m 0 Ls [])
    (body : ∀ (p : Program) (e : Env) (s : State) (m : MethodId) (below : List Frame) (meth : Method) (c : Code) (T : State), p.tables.exec = Jvm.exec → c.code = bytes → c.maxLocals = maxL → (s.setVm s.vm).vm.findClass y.cls = some m.cls → meth.name = y.name → meth.sig.returnType = ret → meth.locks = false → Z.Warmed39 (s.setVm s.vm).vm → Stand p l e rm (s.setVm s.vm) m as' below meth c T [] 0 0 → T.heap = h0 → s.heap = h0 → s.Since s.vm 0 →
      Go p e below T (mkF m 0 Ls []) (RetGW s Q rm.cells rm.slots)) : MetW l y bytes maxL ret ws rm Z as' h0 Q := by
  refine MetFree.of_bodySF hpn hisR ?_
  intro p e s m args below meth c s₁ Bd hml0 hP hK
  obtain ⟨rfl, hZ, hh⟩ := hP
  obtain ⟨s₂, o, h1, h2, h3, h4⟩ := body p e s m below meth c s₁ Bd.exec Bd.bytes hml0 (findClass_of_methodNamed Bd.named) (name_of_methodNamed Bd.named Bd.method).1 Bd.returns (BodyLoose.notSynchronized Bd) hZ (Stand.of_body Bd) (by rw [← hh, Bd.state]; rfl) hh (State.WarmedH.since (State.WarmedH.refl s) 0)
  exact ⟨s₂, o, castTop (hef m) h1, h2, h3, h4⟩
theorem Go.retW_n {Q : Option Value → Heap → List Loc → Prop} {C S : Nat} (X : Stand p l e R (s.setVm vm0) m args below meth c T locs cells slots) (hx : p.tables.exec = Jvm.exec) {t : FieldType} {z : Int32} (hS0 : s.Since vm0 k0) (hk : k0 ≤ T.heap.size) (hret : meth.sig.returnType = some t) (hlk : meth.locks = false) (ht : t = .boolean ∨ t = .byte ∨ t = .char ∨ t = .short) (hd : decode c.code pc = .ok (.ireturn, 1)) (hC : cells ≤ C) (hS : slots ≤ S) (hQ : Q (some (.int (nar t z))) T.heap locs) : Go p e below T (mkF m pc Ls (.int z :: rest)) (RetGW s Q C S) := by
  obtain ⟨fs, hr, hrun, hended, hW⟩ := X.leaveW hS0 hk (v := some (.int (nar t z))) (fun h => by rw [hret] at h; cases h) hlk
  exact ⟨_, _, retN X hx hret ht hd hr, hrun, hended, _, _, rfl, hQ, ⟨_, rfl⟩, hW.2.1, hW.2.2.1, hW.2.2.2.mono hC hS⟩
theorem Go.ldcS (X : Stand p l e R (s.setVm vm0) m args below meth c T locs cells slots) (hx : p.tables.exec = Jvm.exec) (hZ : Z.Warmed39 (s.setVm vm0).vm) (hown : (s.setVm vm0).vm.findClass own = some m.cls) (w : (Cond.stringLink own index text).before a0 Z = true) (wS : ∀ a ∈ Bundle.stringAtoms, a.before a0 Z = true) (eT : T.heap = h) (hS : s.Since vm0 k0) (hk : k0 ≤ h.size) (hd : decode c.code pc = .ok (.ldc index, 2)) {n : Nat} (hn : 4 * text.toList.length ≤ n) (hbig : n ≤ 536870912) (hc : cells + 2 ≤ R.cells) (hl : slots + (n + 4) ≤ R.slots)
    (k : ∀ a T' h' k1, Stand p l e R (s.setVm T'.vm) m args below meth c T' locs (cells + 2) (slots + (n + 4)) → T'.heap = h' → Ext h h' → s.Since T'.vm k1 → k1 ≤ h'.size → Z.Warmed39 (s.setVm T'.vm).vm → (s.setVm T'.vm).vm.findClass own = some m.cls → Go p e below T' (mkF m (pc + 2) Ls (.ref a :: st)) G) : Go p e below T (mkF m pc Ls st) G := by
  obtain ⟨a, T', h', k1, X', e', E, hS', hk', hZ', hown', f⟩ := RoadKit.ldcS X hx hZ hown w wS eT hS hk (g := mkF m pc Ls st) rfl hd hn hbig hc hl
  exact (k a T' h' k1 X' e' E hS' hk' hZ' hown').via f
theorem atomsS {f : Jvm.Cond → Prop} (h : f (.initialized "java/lang/String") ∧ f (.instantiable "java/lang/String" 4) ∧ f (.arrayClass .byte) ∧ f (.laysFinal "java/lang/String" "java/lang/String" "value" "[B") ∧ f (.laysFinal "java/lang/String" "java/lang/String" "coder" "B") ∧ f (.soleField "java/lang/String" "value") ∧ f (.soleField "java/lang/String" "coder")) : ∀ a ∈ Bundle.stringAtoms, f a := by
  intro a ha
  simp only [Bundle.stringAtoms, Bundle.sN, List.mem_cons, List.not_mem_nil, or_false] at ha
  obtain ⟨h1, h2, h3, h4, h5, h6, h7⟩ := h
  rcases ha with rfl | rfl | rfl | rfl | rfl | rfl | rfl <;> assumption
end Wide
end Jvm.Own
namespace Jvm.Own
open Sem ClassFile Op Lib Jvm.Stand Jvm.Free Jvm.LawKit Jvm.RoadKit
section Strs
variable {p : Program} {l : Launch} {e : Env} {R : Room} {s : State} {m : MethodId} {args : Array Value} {below : List Frame} {meth : Method} {c : Code} {T : State} {locs : List Loc} {cells slots : Nat} {Z : State} {a0 : Array Value} {h h' : Heap} {G : Outcome → State → Prop} {pc pc' : Nat} {Ls : Array Slot} {st rest : List Value} {own text : String} {index k0 : Nat} {vm0 : Vm}
variable {a b : Addr} {kk k1 k2 : ClassId} {ty t1 t2 : FieldType} {n n1 n2 i : Nat} {f f1 f2 : Nat → Value} {j x : Int32} {v w : Value}
theorem Fld.one {C nm d : String} (F : Fld Z h a C nm d v) (F' : Fld Z h a C nm d w) : v = w := Classical.byContradiction fun q => Fld.ne F F' q rfl
theorem AV.one (A : AV Z h a k1 t1 n1 f1) (B : AV Z h a k2 t2 n2 f2) : n1 = n2 ∧ ∀ i, i < n1 → f1 i = f2 i := by
  obtain ⟨c, A, r1, r2, r3, r4, r5⟩ := A
  obtain ⟨c', B, q1, q2, q3, q4, q5⟩ := B
  cases A.1.symm.trans B.1
  refine ⟨r2.symm.trans q2, fun i hi => ?_⟩
  exact Option.some.inj ((r4 i hi).symm.trans (q4 i (by omega)))
theorem AV.of_arv {z : Int32} {vs : List Value} {dv : Value} (F : Arv Z h a kk ty z vs dv) (hz : z.toInt = (n : Int)) : AV Z h a kk ty n (fun i => vs.getD i dv) := by
  obtain ⟨c, A, r1, r2, r3, H, Gf⟩ := F
  have q := (ix_nat hz).2
  refine ⟨c, A, r1, r2.trans q, by have := z.toInt_lt; omega, fun i hi => H i (by omega), fun i hi => Gf i (by omega)⟩
theorem AV.arv (F : AV Z h a kk ty n f) {z : Int32} (hz : z.toInt = (n : Int)) (dv : Value) : Arv Z h a kk ty z ((List.range n).map f) dv := by
  obtain ⟨c, A, r1, r2, r3, r4, r5⟩ := F
  have q := ix_nat hz
  refine ⟨c, A, r1, r2.trans q.2.symm, q.1, fun i hi => ?_, fun i hi => ?_⟩
  · rw [r4 i (by omega)]; simp [List.getD_eq_getElem?_getD, show i < n by omega]
  · have := r5 i (by omega); simpa [List.getD_eq_getElem?_getD, show i < n by omega] using this
theorem av_start {t : Term} {z : Int32} (hf : Fit s) (ev : t.eval args s none [] s = some (.ref b)) (wa : (Cond.arrayOf t ty).value args s none s [] = some true) (wl : (Cond.eq (.length t) (.int z)).value args s none s [] = some true) (hz : z.toInt = (n : Int)) :
    ∃ kk f, AV s s.heap b kk ty n f ∧ ∀ (j x : Int32) (i : Nat), (Cond.eq (.elem t (.int j)) (.int x)).value args s none s [] = some true → j.toInt = (i : Int) → f i = .int x := by
  obtain ⟨cl, A⟩ := Arr.start ev wa
  have hlen := Cond.eq_int (Cond.before_iff.mpr wl) rfl
  have hA := A.fin (Vm.Alike.refl _)
  have h31 := Free.SBG.length_lt ev hA hlen
  have hsz : cl.slots.size.toInt32 = z := Value.int.inj (Option.some.inj ((len_f ev hA h31).symm.trans hlen))
  have hn : cl.slots.size = n := by have := len_toInt h31; rw [hsz, hz] at this; omega
  refine ⟨cl.cls, fun i => (cl.slots[i]?).getD .null, ⟨cl, A, rfl, hn, by omega, fun i hi => ?_, fun i hi => ?_⟩, fun j x i we hj => ?_⟩
  · simp [show i < cl.slots.size by omega]
  · have e1 : (Nat.toInt32 i).toNatClampNeg = i := by simp only [Int32.toNatClampNeg, len_toInt (show i < 2 ^ 31 by omega)]; rfl
    exact elem_fits (j := Nat.toInt32 i) hf A (idx_in (by omega) h31) (by rw [e1]; simp [show i < cl.slots.size by omega])
  · have q := Cond.eq_int (Cond.before_iff.mpr we) rfl
    have r := elem_in q ev rfl A.1
    rw [(ix_nat hj).2] at r
    show (cl.slots[i]?).getD .null = _
    rw [r.2]; rfl
/-- the law's own contract: its start is the case's -/
abbrev MetL (l : Launch) (y : MethodName) (bytes : ByteArray) (maxL : Nat) (ret : Option FieldType) (ws : List Jvm.Cond) (rm : Room) (Z : State) (as' : Array Value) (h0 : Heap) (Q : Option Value → Heap → List Loc → Prop) : Prop :=
  MetFree l y (head1 (Jvm.Cond.code y bytes maxL ret :: ws) rm) (fun a U => a = as' ∧ U = Z ∧ U.heap = h0) (fun _ _ _ _ _ => True) (fun _ U o U' => RetGW U Q rm.cells rm.slots o U')
theorem MetL.of {y : MethodName} {bytes : ByteArray} {maxL : Nat} {ret : Option FieldType} {ws : List Jvm.Cond} {rm : Room} {as' : Array Value} {h0 : Heap} {Q : Option Value → Heap → List Loc → Prop} (hpn : plainFor y = true) (hef : ∀ m, entryFrame m as' maxL = mkF m 0 Ls [])
    (body : ∀ (p : Program) (e : Env) (s : State) (m : MethodId) (below : List Frame) (meth : Method) (c : Code) (T : State), p.tables.exec = Jvm.exec → c.code = bytes → c.maxLocals = maxL → (s.setVm s.vm).vm.findClass y.cls = some m.cls → meth.name = y.name → meth.sig.returnType = ret → meth.locks = false → Z.Warmed39 (s.setVm s.vm).vm → Stand p l e rm (s.setVm s.vm) m as' below meth c T [] 0 0 → T.heap = h0 → s.heap = h0 → s.Since s.vm 0 → s = Z →
      Go p e below T (mkF m 0 Ls []) (RetGW s Q rm.cells rm.slots)) : MetL l y bytes maxL ret ws rm Z as' h0 Q := by
  refine MetFree.of_bodySF hpn hisR ?_
  intro p e s m args below meth c s₁ Bd hml0 hP hK
  obtain ⟨rfl, hZ, hh⟩ := hP
  obtain ⟨s₂, o, h1, h2, h3, h4⟩ := body p e s m below meth c s₁ Bd.exec Bd.bytes hml0 (findClass_of_methodNamed Bd.named) (name_of_methodNamed Bd.named Bd.method).1 Bd.returns (BodyLoose.notSynchronized Bd) (by rw [hZ]; exact State.Warmed39.refl _) (Stand.of_body Bd) (by rw [← hh, Bd.state]; rfl) hh (State.WarmedH.since (State.WarmedH.refl s) 0) hZ
  exact ⟨s₂, o, castTop (hef m) h1, h2, h3, h4⟩
/-- ldc of a String constant, read -/
theorem Go.ldcV {Ts : List String} (X : Stand p l e R (s.setVm vm0) m args below meth c T locs cells slots) (hx : p.tables.exec = Jvm.exec) (hZ : Z.Warmed39 (s.setVm vm0).vm) (hown : (s.setVm vm0).vm.findClass own = some m.cls) (w : (Cond.stringLink own index text).before a0 Z = true) (wS : ∀ a ∈ Bundle.stringAtoms, a.before a0 Z = true) (eT : T.heap = h) (hS : s.Since vm0 k0) (hk : k0 ≤ h.size) (N : Fr s.heap.size locs) (hs : s = Z) (Ib : IB Z vm0 Ts) (hnot : text ∉ Ts) (hh : Jvm.Lit.constHeld Z own index) (hcw : Jvm.Lit.compactW.before a0 Z = true)
    {vs : List Value} {z : Int32} (ht : (∀ c ∈ text.toList, c.toNat < 256) ∧ text.toList.map (fun c => Value.int (Jvm.Lit.byteI c.toNat.toUInt16)) = vs) (hz : z.toInt = (n : Int)) (hl : n = vs.length) (hd : decode c.code pc = .ok (.ldc index, 2)) {cap : Nat} (hn : 4 * text.toList.length ≤ cap) (hbig : cap ≤ 536870912) (hc : cells + 2 ≤ R.cells) (hl' : slots + (cap + 4) ≤ R.slots)
    (k : ∀ a T' h' k1 b kk, Stand p l e R (s.setVm T'.vm) m args below meth c T' locs (cells + 2) (slots + (cap + 4)) → T'.heap = h' → Ext h h' → s.Since T'.vm k1 → k1 ≤ h'.size → Z.Warmed39 (s.setVm T'.vm).vm → (s.setVm T'.vm).vm.findClass own = some m.cls →
      Exa Z h' a "java/lang/String" → Fld Z h' a "java/lang/String" "coder" "B" (.int 0) → Fld Z h' a "java/lang/String" "value" "[B" (.ref b) → AV Z h' b kk .byte n (fun i => vs.getD i (.int 0)) → IB Z T'.vm (text :: Ts) → Go p e below T' (mkF m (pc + 2) Ls (.ref a :: st)) G) : Go p e below T (mkF m pc Ls st) G := by
  obtain ⟨a, T', h', k1, b, kk, X', e', E, hS', hk', hZ', hown', E1, F1, F2, A1, -, -, I', -, f⟩ := ldcSVL X hx hZ hown w wS eT hS hk N (fun b cl q => by rw [hs]; exact q) Ib hnot hh hcw ht (ix_nat hz).1 ((ix_nat hz).2.trans hl) (g := mkF m pc Ls st) rfl hd hn hbig hc hl'
  exact (k a T' h' k1 b kk X' e' E hS' hk' hZ' hown' E1 F1 F2 (AV.of_arv A1 hz) I').via f
end Strs
end Jvm.Own
namespace Jvm.Own
open Sem ClassFile Op Lib Jvm.Stand Jvm.Free Jvm.LawKit Jvm.RoadKit
section More
variable {p : Program} {l : Launch} {e : Env} {R : Room} {s : State} {m : MethodId} {args : Array Value} {below : List Frame} {meth : Method} {c : Code} {T : State} {locs : List Loc} {cells slots : Nat} {Z : State} {a0 : Array Value} {h h' : Heap} {G : Outcome → State → Prop} {pc pc' : Nat} {Ls : Array Slot} {st rest : List Value} {own text : String} {index k0 : Nat}
variable {y : MethodName} {bytes : ByteArray} {maxL : Nat} {ret : Option FieldType} {rm : Room} {Q : Option Value → Heap → List Loc → Prop} {argsL : List Value} {ps : List FieldType} {r : Option FieldType} {mx W n : Nat} {a b : Addr} {C : String}
/-- a private method by its contract -/
theorem Go.callP (X : Stand p l e R s m args below meth c T locs cells slots) (hx : p.tables.exec = Jvm.exec) (hZ : Z.Warmed39 s.vm) (hown : s.vm.findClass own = some m.cls) (w1 : (Cond.methodLink own index y).before a0 Z = true) (w2 : (Cond.instanceMethod y).before a0 Z = true) (w3 : (Cond.privateMethod y).before a0 Z = true) (w4 : (Cond.instantiable y.cls n).before a0 Z = true) (w5 : (Cond.code y bytes maxL ret).before a0 Z = true) (w6 : (Cond.initialized y.cls).before a0 Z = true)
    (hy : y.cls ≠ "java/lang/invoke/MethodHandle" ∧ y.cls ≠ "java/lang/invoke/VarHandle") (eT : T.heap = h) (E : Exa Z h a C) (hM : Met l y bytes maxL ret [] rm Z (.ref a :: argsL).toArray h Q) (hml : c.maxLocals = mx) (hsz : Ls.size = mx) (pd : parseMethodDescriptor y.desc = some ⟨ps, r⟩) (hlen : argsL.length = ps.length) (hs : st = argsL.reverse ++ .ref a :: rest) (hW : (rest.map fun v => v.category).sum ≤ W)
    (hf : rm.frames + 1 ≤ R.frames) (hl : W + (maxL + 11) + rm.locals ≤ R.locals) (hc : cells + rm.cells ≤ R.cells) (hsl : slots + rm.slots ≤ R.slots) (hd : decode c.code pc = .ok (.invokevirtual index, 3))
    (k : ∀ v T' L, Stand p l e R s m args below meth c T' (locs ++ L) (cells + rm.cells) (slots + rm.slots) → Q v T'.heap L → Go p e below T' (mkF m (pc + 3) Ls (v.toList ++ rest)) G) : Go p e below T (mkF m pc Ls st) G := by
  obtain ⟨cl, q1, q2⟩ := E.cell
  have hp : s.PrivateAt y := Cond.privateMethod_at (mvP hZ w3 (args := #[]))
  obtain ⟨ci, ki, i1, i2, i3, i4, -⟩ := Cond.instantiable_spec (mvT (args := args) hZ w4)
  have i5 : ki.isInterface = false := by simp only [Bool.or_eq_false_iff] at i4; exact i4.1
  obtain ⟨v, vm₁, ⟨T', L', k', n'⟩, -, X', ⟨Lc, hQ, l1, y1, z1⟩, f⟩ := X.privateBack hx hown (mvT hZ w1) (mvT hZ w2) (selects_self_of_private i1 i2 i5 hp (mvT hZ w2) hy) hp (mvT hZ w5) hy (backOf (W := W) hM hZ w5 w6 hf hl) (g := mkF m pc Ls st) rfl (hsz.trans hml.symm) (Steps.refl _) (a := a) (by rw [eT]; exact q1) q2 (argsL := argsL) (rest := rest) (lenOf pd hlen) hs (by show 2 * 0 + _ ≤ _; omega) hd (fun _ _ => ⟨rfl, eT, hc, hsl⟩)
  dsimp only [Pt.U, Pt.locs, Pt.cells, Pt.slots] at X' l1 y1 z1 f hQ
  subst l1 y1 z1
  exact (k v T' Lc X' hQ).via fun t q => f.trans q
theorem getD_app3 {A B D : List Value} {d : Value} {i : Nat} : (A ++ B ++ D).getD i d = if i < A.length then A.getD i d else if i < A.length + B.length then B.getD (i - A.length) d else D.getD (i - A.length - B.length) d := by
  simp only [List.getD_eq_getElem?_getD]
  split
  · rename_i q; rw [List.getElem?_append_left (by rw [List.length_append]; omega), List.getElem?_append_left q]
  · rename_i q
    split
    · rename_i r; rw [List.getElem?_append_left (by rw [List.length_append]; omega), List.getElem?_append_right (by omega)]
    · rename_i r; rw [List.getElem?_append_right (by rw [List.length_append]; omega), List.length_append]; congr 2; omega
theorem getD_rm {f : Nat → Value} {n i : Nat} {d : Value} (hi : i < n) : ((List.range n).map f).getD i d = f i := by
  simp [List.getD_eq_getElem?_getD, hi]
/-- System.arraycopy of plain components -/
theorem Go.acopy (X : Stand p l e R s m args below meth c T locs cells slots) (hx : p.tables.exec = Jvm.exec) (hZ : Z.Warmed39 s.vm) (hown : s.vm.findClass own = some m.cls) (w1 : (Cond.methodLink own index Jvm.Stand.acN).before a0 Z = true) (w2 : (Cond.native Jvm.Stand.acN).before a0 Z = true) (w3 : (Cond.static Jvm.Stand.acN).before a0 Z = true) (w4 : (Cond.initialized "java/lang/System").before a0 Z = true) (eT : T.heap = h)
    {k1 k2 : ClassId} {ty : FieldType} {n1 n2 i1 i2 cnt n0 : Nat} {f1 f2 : Nat → Value} {sp dp nn : Int32} (A : AV Z h a k1 ty n1 f1) (B : AV Z h b k2 ty n2 f2) (hp : refKind ty = false) (hsp : sp.toInt = (i1 : Int)) (hdp : dp.toInt = (i2 : Int)) (hnn : nn.toInt = (cnt : Int)) (h4 : i1 + cnt ≤ n1) (h5 : i2 + cnt ≤ n2) (N : Fr n0 locs) (ge : n0 ≤ b)
    (hml : c.maxLocals = mx) (hsz : Ls.size = mx) (hd : decode c.code pc = .ok (.invokestatic index, 3)) (hf : 1 ≤ R.frames) (hW : (st.map fun v => v.category).sum ≤ W) (hlo : W + 18 ≤ R.locals)
    (k : ∀ T' h' L, Stand p l e R s m args below meth c T' L cells slots → T'.heap = h' → Fr n0 L → Keep h h' [b] → AV Z h' b k2 ty n2 (fun i => if i2 ≤ i ∧ i < i2 + cnt then f1 (i1 + (i - i2)) else f2 i) → Go p e below T' (mkF m (pc + 3) Ls st) G) : Go p e below T (mkF m pc Ls (.int nn :: .int dp :: .ref b :: .int sp :: .ref a :: st)) G := by
  have zA : (Nat.toInt32 n1).toInt = (n1 : Int) := by obtain ⟨_, -, -, -, q, -⟩ := A; exact len_toInt q
  have zB : (Nat.toInt32 n2).toInt = (n2 : Int) := by obtain ⟨_, -, -, -, q, -⟩ := B; exact len_toInt q
  obtain ⟨s1, s2⟩ := ix_nat hsp; obtain ⟨d1, d2⟩ := ix_nat hdp; obtain ⟨c1, c2⟩ := ix_nat hnn; obtain ⟨-, a2⟩ := ix_nat zA; obtain ⟨-, b2⟩ := ix_nat zB
  obtain ⟨T', h', L, X', e', N', K, B', f⟩ := cpA X hx hZ hown w1 w2 w3 w4 eT (A.arv zA (.int 0)) (B.arv zB (.int 0)) (Or.inl ⟨rfl, hp⟩) s1 d1 c1 (by rw [s2, c2, a2]; exact h4) (by rw [d2, c2, b2]; exact h5) rfl (by rw [d2, c2]; simpa using h5) N ge (g := mkF m pc Ls (.int nn :: .int dp :: .ref b :: .int sp :: .ref a :: st)) rfl (hsz.trans hml.symm) rfl hd hf (W := W) (by show 2 * 0 + _ ≤ _; omega) hlo
  refine (k T' h' L X' e' N' K ((AV.of_arv B' zB).cong fun i hi => ?_)).via f
  rw [s2, d2, c2, getD_app3]
  have l1 : (((List.range n2).map f2).take i2).length = i2 := by simp; omega
  have l2 : ((List.range cnt).map fun i => ((List.range n1).map f1).getD (i1 + i) (.int 0)).length = cnt := by simp
  rw [l1, l2]
  by_cases q : i < i2
  · rw [if_pos q, if_neg (by omega)]
    simp only [List.getD_eq_getElem?_getD, List.getElem?_take, if_pos q]
    simp [hi]
  · rw [if_neg q]
    by_cases q2 : i < i2 + cnt
    · rw [if_pos q2, if_pos ⟨by omega, q2⟩, getD_rm (by omega), getD_rm (by omega)]
    · rw [if_neg q2, if_neg (by omega)]
      simp only [List.getD_eq_getElem?_getD, List.getElem?_drop]
      rw [show i2 + cnt + (i - i2 - cnt) = i by omega]
      simp [hi]
end More
end Jvm.Own
namespace Jvm.Pilot.@@N@@
open Jvm Jvm.ClassFile Sem Op Lib Jvm.Free Jvm.Stand Jvm.LawKit Jvm.RoadKit Jvm.Own Bundle Jvm.Pilot.@@N@@.Jvm.D
theorem hwi {a0 : Array Value} {Z : State} (hw : ∀ d ∈ tables_1, d.before a0 Z = true) (i : Nat) {d : Jvm.Cond} (h : tables_1[i]? = some d) : d.before a0 Z = true := hw _ (List.mem_of_getElem? h)
def Ty (Z : State) (b0 b1 b2 b3 b4 b5 b6 b7 b8 b9 b10 b11 b12 b13 b14 b15 b16 bH : Addr) : Prop := Sta Z Z.heap "com/example/fylgja/fylgja/Access" "FILE_READ" "Lcom/example/fylgja/fylgja/Access;" (.ref b0) ∧ Sta Z Z.heap "com/example/fylgja/fylgja/Access" "FILE_WRITE" "Lcom/example/fylgja/fylgja/Access;" (.ref b1) ∧ Sta Z Z.heap "com/example/fylgja/fylgja/Access" "FILE_CREATE" "Lcom/example/fylgja/fylgja/Access;" (.ref b2) ∧ Sta Z Z.heap "com/example/fylgja/fylgja/Access" "FILE_DELETE" "Lcom/example/fylgja/fylgja/Access;" (.ref b3) ∧ Sta Z Z.heap "com/example/fylgja/fylgja/Access" "DIRECTORY_READ" "Lcom/example/fylgja/fylgja/Access;" (.ref b4) ∧ Sta Z Z.heap "com/example/fylgja/fylgja/Access" "DIRECTORY_CREATE" "Lcom/example/fylgja/fylgja/Access;" (.ref b5) ∧ Sta Z Z.heap "com/example/fylgja/fylgja/Access" "HOST_RESOLVE" "Lcom/example/fylgja/fylgja/Access;" (.ref b6) ∧ Sta Z Z.heap "com/example/fylgja/fylgja/Access" "HOST_CONNECT_TO" "Lcom/example/fylgja/fylgja/Access;" (.ref b7) ∧ Sta Z Z.heap "com/example/fylgja/fylgja/Access" "HOST_CONNECT_FROM" "Lcom/example/fylgja/fylgja/Access;" (.ref b8) ∧ Sta Z Z.heap "com/example/fylgja/fylgja/Access" "HOST_LISTEN" "Lcom/example/fylgja/fylgja/Access;" (.ref b9) ∧ Sta Z Z.heap "com/example/fylgja/fylgja/Access" "COMMAND_EXEC" "Lcom/example/fylgja/fylgja/Access;" (.ref b10) ∧ Sta Z Z.heap "com/example/fylgja/fylgja/Access" "PROPERTY_READ" "Lcom/example/fylgja/fylgja/Access;" (.ref b11) ∧ Sta Z Z.heap "com/example/fylgja/fylgja/Access" "PROPERTY_WRITE" "Lcom/example/fylgja/fylgja/Access;" (.ref b12) ∧ Sta Z Z.heap "com/example/fylgja/fylgja/Access" "ENV_READ" "Lcom/example/fylgja/fylgja/Access;" (.ref b13) ∧ Sta Z Z.heap "com/example/fylgja/fylgja/Access" "CLASS_DEFINE" "Lcom/example/fylgja/fylgja/Access;" (.ref b14) ∧ Sta Z Z.heap "com/example/fylgja/fylgja/Access" "LIBRARY_LINK" "Lcom/example/fylgja/fylgja/Access;" (.ref b15) ∧ Sta Z Z.heap "com/example/fylgja/fylgja/Access" "PROGRAM_EXIT" "Lcom/example/fylgja/fylgja/Access;" (.ref b16) ∧ Exa Z Z.heap b0 "com/example/fylgja/fylgja/Access" ∧ Exa Z Z.heap b1 "com/example/fylgja/fylgja/Access" ∧ Exa Z Z.heap b2 "com/example/fylgja/fylgja/Access" ∧ Exa Z Z.heap b3 "com/example/fylgja/fylgja/Access" ∧ Exa Z Z.heap b4 "com/example/fylgja/fylgja/Access" ∧ Exa Z Z.heap b5 "com/example/fylgja/fylgja/Access" ∧ Exa Z Z.heap b6 "com/example/fylgja/fylgja/Access" ∧ Exa Z Z.heap b7 "com/example/fylgja/fylgja/Access" ∧ Exa Z Z.heap b8 "com/example/fylgja/fylgja/Access" ∧ Exa Z Z.heap b9 "com/example/fylgja/fylgja/Access" ∧ Exa Z Z.heap b10 "com/example/fylgja/fylgja/Access" ∧ Exa Z Z.heap b11 "com/example/fylgja/fylgja/Access" ∧ Exa Z Z.heap b12 "com/example/fylgja/fylgja/Access" ∧ Exa Z Z.heap b13 "com/example/fylgja/fylgja/Access" ∧ Exa Z Z.heap b14 "com/example/fylgja/fylgja/Access" ∧ Exa Z Z.heap b15 "com/example/fylgja/fylgja/Access" ∧ Exa Z Z.heap b16 "com/example/fylgja/fylgja/Access" ∧ b0 ≠ b7 ∧ b0 ≠ b8 ∧ b0 ≠ b9 ∧ b1 ≠ b7 ∧ b1 ≠ b8 ∧ b1 ≠ b9 ∧ b2 ≠ b7 ∧ b2 ≠ b8 ∧ b2 ≠ b9 ∧ b3 ≠ b7 ∧ b3 ≠ b8 ∧ b3 ≠ b9 ∧ b4 ≠ b7 ∧ b4 ≠ b8 ∧ b4 ≠ b9 ∧ b5 ≠ b7 ∧ b5 ≠ b8 ∧ b5 ≠ b9 ∧ b6 ≠ b7 ∧ b6 ≠ b8 ∧ b6 ≠ b9 ∧ b7 ≠ b8 ∧ b7 ≠ b9 ∧ b8 ≠ b7 ∧ b8 ≠ b9 ∧ b9 ≠ b7 ∧ b9 ≠ b8 ∧ b10 ≠ b7 ∧ b10 ≠ b8 ∧ b10 ≠ b9 ∧ b11 ≠ b7 ∧ b11 ≠ b8 ∧ b11 ≠ b9 ∧ b12 ≠ b7 ∧ b12 ≠ b8 ∧ b12 ≠ b9 ∧ b13 ≠ b7 ∧ b13 ≠ b8 ∧ b13 ≠ b9 ∧ b14 ≠ b7 ∧ b14 ≠ b8 ∧ b14 ≠ b9 ∧ b15 ≠ b7 ∧ b15 ≠ b8 ∧ b15 ≠ b9 ∧ b16 ≠ b7 ∧ b16 ≠ b8 ∧ b16 ≠ b9 ∧ Fld Z Z.heap b7 "com/example/fylgja/fylgja/Access" "kind" "Lcom/example/fylgja/fylgja/ResourceKind;" (.ref bH) ∧ Fld Z Z.heap b8 "com/example/fylgja/fylgja/Access" "kind" "Lcom/example/fylgja/fylgja/ResourceKind;" (.ref bH) ∧ Fld Z Z.heap b9 "com/example/fylgja/fylgja/Access" "kind" "Lcom/example/fylgja/fylgja/ResourceKind;" (.ref bH) ∧ Sta Z Z.heap "com/example/fylgja/fylgja/ResourceKind" "HOST" "Lcom/example/fylgja/fylgja/ResourceKind;" (.ref bH)
theorem d1_0 : decode prog_1_method_7_code 0 = .ok (.aload_n 0, 1) := by decide +kernel
theorem d1_1 : decode prog_1_method_7_code 1 = .ok (.getstatic 25, 3) := by decide +kernel
theorem d1_4 : decode prog_1_method_7_code 4 = .ok (.if_acmp .eq 17, 3) := by decide +kernel
theorem d1_7 : decode prog_1_method_7_code 7 = .ok (.aload_n 0, 1) := by decide +kernel
theorem d1_8 : decode prog_1_method_7_code 8 = .ok (.getstatic 28, 3) := by decide +kernel
theorem d1_11 : decode prog_1_method_7_code 11 = .ok (.if_acmp .eq 10, 3) := by decide +kernel
theorem d1_14 : decode prog_1_method_7_code 14 = .ok (.aload_n 0, 1) := by decide +kernel
theorem d1_15 : decode prog_1_method_7_code 15 = .ok (.getstatic 31, 3) := by decide +kernel
theorem d1_18 : decode prog_1_method_7_code 18 = .ok (.if_acmp .ne 7, 3) := by decide +kernel
theorem d1_21 : decode prog_1_method_7_code 21 = .ok (.iconst 1, 1) := by decide +kernel
theorem d1_22 : decode prog_1_method_7_code 22 = .ok (.goto 4, 3) := by decide +kernel
theorem d1_25 : decode prog_1_method_7_code 25 = .ok (.iconst 0, 1) := by decide +kernel
theorem d1_26 : decode prog_1_method_7_code 26 = .ok (.ireturn, 1) := by decide +kernel
theorem d2_0 : decode prog_1_method_6_code 0 = .ok (.aload_n 0, 1) := by decide +kernel
theorem d2_1 : decode prog_1_method_6_code 1 = .ok (.getfield 99, 3) := by decide +kernel
theorem d2_4 : decode prog_1_method_6_code 4 = .ok (.areturn, 1) := by decide +kernel
def Qnp0 (Z : State) (b0 b1 b2 b3 b4 b5 b6 b7 b8 b9 b10 b11 b12 b13 b14 b15 b16 bH : Addr) (h0 : Heap) (n0 : Nat) (v : Option Value) (h : Heap) (L : List Loc) : Prop := v = some (.int (0 : Int32)) ∧ Fr n0 L ∧ h = h0
set_option maxRecDepth 65536 in
set_option maxHeartbeats 40000000 in
theorem rmnp0 (l : Launch) (Z : State) (a0 : Array Value) (hw : ∀ d ∈ tables_1, d.before a0 Z = true) (b0 b1 b2 b3 b4 b5 b6 b7 b8 b9 b10 b11 b12 b13 b14 b15 b16 bH : Addr) (h0 : Heap) (n0 : Nat) (Z0 : n0 ≤ h0.size) (O0 : Old Z n0 h0) (ty : Ty Z b0 b1 b2 b3 b4 b5 b6 b7 b8 b9 b10 b11 b12 b13 b14 b15 b16 bH) :
    Met l (⟨"com/example/fylgja/fylgja/Access", "namesPort", "()Z"⟩ : MethodName) prog_1_method_7_code 1 (some .boolean) [] ({ frames := 0, cells := 0, slots := 0, locals := 0 } : Room) Z #[(.ref b0)] h0 (Qnp0 Z b0 b1 b2 b3 b4 b5 b6 b7 b8 b9 b10 b11 b12 b13 b14 b15 b16 bH h0 n0) := by
  refine Met.of (Ls := #[.val (.ref b0)]) (by first | exact plainFor_of_name (by first | (simp [plainName, overriddenIn]; done) | decide +kernel) | decide +kernel) (fun m => by first | (simp [entryFrame, mkF, argsToLocals, Value.category]; done) | rfl) ?_
  intro p e s m below meth c T0 hx hby hml hown hnm hret hlk hZ X0 e0
  have N0 := Fr.nil n0
  show Go p e below T0 (mkF m 0 #[.val (.ref b0)] []) _
  obtain ⟨S0, S1, S2, S3, S4, S5, S6, S7, S8, S9, S10, S11, S12, S13, S14, S15, S16, Ea0, Ea1, Ea2, Ea3, Ea4, Ea5, Ea6, Ea7, Ea8, Ea9, Ea10, Ea11, Ea12, Ea13, Ea14, Ea15, Ea16, ne0_7, ne0_8, ne0_9, ne1_7, ne1_8, ne1_9, ne2_7, ne2_8, ne2_9, ne3_7, ne3_8, ne3_9, ne4_7, ne4_8, ne4_9, ne5_7, ne5_8, ne5_9, ne6_7, ne6_8, ne6_9, ne7_8, ne7_9, ne8_7, ne8_9, ne9_7, ne9_8, ne10_7, ne10_8, ne10_9, ne11_7, ne11_8, ne11_9, ne12_7, ne12_8, ne12_9, ne13_7, ne13_8, ne13_9, ne14_7, ne14_8, ne14_9, ne15_7, ne15_8, ne15_9, ne16_7, ne16_8, ne16_9, K7, K8, K9, SH⟩ := id ty
  refine Go.aload_n X0 hx (hb hby d1_0) rfl rfl ?_
  show Go p e below T0 (mkF m 1 #[.val (.ref b0)] [(.ref b0)]) _
  refine Go.getS X0 hx hZ hown (hwi hw 44 rfl) e0 (Sta.ext O0.2 S7) (hb hby d1_1) ?_
  intro T1 X1 e1
  show Go p e below T1 (mkF m 4 #[.val (.ref b0)] [(.ref b7), (.ref b0)]) _
  refine Go.acmp X1 hx (hb hby d1_4) (pc' := 21) (by decide) rfl rfl (ac_eq _ _) (fun c4 => ?_) (fun c4 => ?_)
  · exact absurd c4 (rne ne0_7)
  show Go p e below T1 (mkF m 7 #[.val (.ref b0)] []) _
  refine Go.aload_n X1 hx (hb hby d1_7) rfl rfl ?_
  show Go p e below T1 (mkF m 8 #[.val (.ref b0)] [(.ref b0)]) _
  refine Go.getS X1 hx hZ hown (hwi hw 45 rfl) e1 (Sta.ext O0.2 S8) (hb hby d1_8) ?_
  intro T2 X2 e2
  show Go p e below T2 (mkF m 11 #[.val (.ref b0)] [(.ref b8), (.ref b0)]) _
  refine Go.acmp X2 hx (hb hby d1_11) (pc' := 21) (by decide) rfl rfl (ac_eq _ _) (fun c11 => ?_) (fun c11 => ?_)
  · exact absurd c11 (rne ne0_8)
  show Go p e below T2 (mkF m 14 #[.val (.ref b0)] []) _
  refine Go.aload_n X2 hx (hb hby d1_14) rfl rfl ?_
  show Go p e below T2 (mkF m 15 #[.val (.ref b0)] [(.ref b0)]) _
  refine Go.getS X2 hx hZ hown (hwi hw 46 rfl) e2 (Sta.ext O0.2 S9) (hb hby d1_15) ?_
  intro T3 X3 e3
  show Go p e below T3 (mkF m 18 #[.val (.ref b0)] [(.ref b9), (.ref b0)]) _
  refine Go.acmp X3 hx (hb hby d1_18) (pc' := 25) (by decide) rfl rfl (ac_ne _ _) (fun c18 => ?_) (fun c18 => ?_)
  rotate_left
  · exact absurd (rne ne0_9) c18
  show Go p e below T3 (mkF m 25 #[.val (.ref b0)] []) _
  refine Go.iconst X3 hx (hb hby d1_25) ?_
  show Go p e below T3 (mkF m 26 #[.val (.ref b0)] [(.int (0 : Int32))]) _
  refine Go.ret_n X3 hx hret hlk (by simp) (hb hby d1_26) (by decide) (by decide) ?_
  rw [e3]
  exact ⟨rfl, N0, rfl⟩
def Qnp1 (Z : State) (b0 b1 b2 b3 b4 b5 b6 b7 b8 b9 b10 b11 b12 b13 b14 b15 b16 bH : Addr) (h0 : Heap) (n0 : Nat) (v : Option Value) (h : Heap) (L : List Loc) : Prop := v = some (.int (0 : Int32)) ∧ Fr n0 L ∧ h = h0
set_option maxRecDepth 65536 in
set_option maxHeartbeats 40000000 in
theorem rmnp1 (l : Launch) (Z : State) (a0 : Array Value) (hw : ∀ d ∈ tables_1, d.before a0 Z = true) (b0 b1 b2 b3 b4 b5 b6 b7 b8 b9 b10 b11 b12 b13 b14 b15 b16 bH : Addr) (h0 : Heap) (n0 : Nat) (Z0 : n0 ≤ h0.size) (O0 : Old Z n0 h0) (ty : Ty Z b0 b1 b2 b3 b4 b5 b6 b7 b8 b9 b10 b11 b12 b13 b14 b15 b16 bH) :
    Met l (⟨"com/example/fylgja/fylgja/Access", "namesPort", "()Z"⟩ : MethodName) prog_1_method_7_code 1 (some .boolean) [] ({ frames := 0, cells := 0, slots := 0, locals := 0 } : Room) Z #[(.ref b1)] h0 (Qnp1 Z b0 b1 b2 b3 b4 b5 b6 b7 b8 b9 b10 b11 b12 b13 b14 b15 b16 bH h0 n0) := by
  refine Met.of (Ls := #[.val (.ref b1)]) (by first | exact plainFor_of_name (by first | (simp [plainName, overriddenIn]; done) | decide +kernel) | decide +kernel) (fun m => by first | (simp [entryFrame, mkF, argsToLocals, Value.category]; done) | rfl) ?_
  intro p e s m below meth c T0 hx hby hml hown hnm hret hlk hZ X0 e0
  have N0 := Fr.nil n0
  show Go p e below T0 (mkF m 0 #[.val (.ref b1)] []) _
  obtain ⟨S0, S1, S2, S3, S4, S5, S6, S7, S8, S9, S10, S11, S12, S13, S14, S15, S16, Ea0, Ea1, Ea2, Ea3, Ea4, Ea5, Ea6, Ea7, Ea8, Ea9, Ea10, Ea11, Ea12, Ea13, Ea14, Ea15, Ea16, ne0_7, ne0_8, ne0_9, ne1_7, ne1_8, ne1_9, ne2_7, ne2_8, ne2_9, ne3_7, ne3_8, ne3_9, ne4_7, ne4_8, ne4_9, ne5_7, ne5_8, ne5_9, ne6_7, ne6_8, ne6_9, ne7_8, ne7_9, ne8_7, ne8_9, ne9_7, ne9_8, ne10_7, ne10_8, ne10_9, ne11_7, ne11_8, ne11_9, ne12_7, ne12_8, ne12_9, ne13_7, ne13_8, ne13_9, ne14_7, ne14_8, ne14_9, ne15_7, ne15_8, ne15_9, ne16_7, ne16_8, ne16_9, K7, K8, K9, SH⟩ := id ty
  refine Go.aload_n X0 hx (hb hby d1_0) rfl rfl ?_
  show Go p e below T0 (mkF m 1 #[.val (.ref b1)] [(.ref b1)]) _
  refine Go.getS X0 hx hZ hown (hwi hw 44 rfl) e0 (Sta.ext O0.2 S7) (hb hby d1_1) ?_
  intro T1 X1 e1
  show Go p e below T1 (mkF m 4 #[.val (.ref b1)] [(.ref b7), (.ref b1)]) _
  refine Go.acmp X1 hx (hb hby d1_4) (pc' := 21) (by decide) rfl rfl (ac_eq _ _) (fun c4 => ?_) (fun c4 => ?_)
  · exact absurd c4 (rne ne1_7)
  show Go p e below T1 (mkF m 7 #[.val (.ref b1)] []) _
  refine Go.aload_n X1 hx (hb hby d1_7) rfl rfl ?_
  show Go p e below T1 (mkF m 8 #[.val (.ref b1)] [(.ref b1)]) _
  refine Go.getS X1 hx hZ hown (hwi hw 45 rfl) e1 (Sta.ext O0.2 S8) (hb hby d1_8) ?_
  intro T2 X2 e2
  show Go p e below T2 (mkF m 11 #[.val (.ref b1)] [(.ref b8), (.ref b1)]) _
  refine Go.acmp X2 hx (hb hby d1_11) (pc' := 21) (by decide) rfl rfl (ac_eq _ _) (fun c11 => ?_) (fun c11 => ?_)
  · exact absurd c11 (rne ne1_8)
  show Go p e below T2 (mkF m 14 #[.val (.ref b1)] []) _
  refine Go.aload_n X2 hx (hb hby d1_14) rfl rfl ?_
  show Go p e below T2 (mkF m 15 #[.val (.ref b1)] [(.ref b1)]) _
  refine Go.getS X2 hx hZ hown (hwi hw 46 rfl) e2 (Sta.ext O0.2 S9) (hb hby d1_15) ?_
  intro T3 X3 e3
  show Go p e below T3 (mkF m 18 #[.val (.ref b1)] [(.ref b9), (.ref b1)]) _
  refine Go.acmp X3 hx (hb hby d1_18) (pc' := 25) (by decide) rfl rfl (ac_ne _ _) (fun c18 => ?_) (fun c18 => ?_)
  rotate_left
  · exact absurd (rne ne1_9) c18
  show Go p e below T3 (mkF m 25 #[.val (.ref b1)] []) _
  refine Go.iconst X3 hx (hb hby d1_25) ?_
  show Go p e below T3 (mkF m 26 #[.val (.ref b1)] [(.int (0 : Int32))]) _
  refine Go.ret_n X3 hx hret hlk (by simp) (hb hby d1_26) (by decide) (by decide) ?_
  rw [e3]
  exact ⟨rfl, N0, rfl⟩
def Qnp2 (Z : State) (b0 b1 b2 b3 b4 b5 b6 b7 b8 b9 b10 b11 b12 b13 b14 b15 b16 bH : Addr) (h0 : Heap) (n0 : Nat) (v : Option Value) (h : Heap) (L : List Loc) : Prop := v = some (.int (0 : Int32)) ∧ Fr n0 L ∧ h = h0
set_option maxRecDepth 65536 in
set_option maxHeartbeats 40000000 in
theorem rmnp2 (l : Launch) (Z : State) (a0 : Array Value) (hw : ∀ d ∈ tables_1, d.before a0 Z = true) (b0 b1 b2 b3 b4 b5 b6 b7 b8 b9 b10 b11 b12 b13 b14 b15 b16 bH : Addr) (h0 : Heap) (n0 : Nat) (Z0 : n0 ≤ h0.size) (O0 : Old Z n0 h0) (ty : Ty Z b0 b1 b2 b3 b4 b5 b6 b7 b8 b9 b10 b11 b12 b13 b14 b15 b16 bH) :
    Met l (⟨"com/example/fylgja/fylgja/Access", "namesPort", "()Z"⟩ : MethodName) prog_1_method_7_code 1 (some .boolean) [] ({ frames := 0, cells := 0, slots := 0, locals := 0 } : Room) Z #[(.ref b2)] h0 (Qnp2 Z b0 b1 b2 b3 b4 b5 b6 b7 b8 b9 b10 b11 b12 b13 b14 b15 b16 bH h0 n0) := by
  refine Met.of (Ls := #[.val (.ref b2)]) (by first | exact plainFor_of_name (by first | (simp [plainName, overriddenIn]; done) | decide +kernel) | decide +kernel) (fun m => by first | (simp [entryFrame, mkF, argsToLocals, Value.category]; done) | rfl) ?_
  intro p e s m below meth c T0 hx hby hml hown hnm hret hlk hZ X0 e0
  have N0 := Fr.nil n0
  show Go p e below T0 (mkF m 0 #[.val (.ref b2)] []) _
  obtain ⟨S0, S1, S2, S3, S4, S5, S6, S7, S8, S9, S10, S11, S12, S13, S14, S15, S16, Ea0, Ea1, Ea2, Ea3, Ea4, Ea5, Ea6, Ea7, Ea8, Ea9, Ea10, Ea11, Ea12, Ea13, Ea14, Ea15, Ea16, ne0_7, ne0_8, ne0_9, ne1_7, ne1_8, ne1_9, ne2_7, ne2_8, ne2_9, ne3_7, ne3_8, ne3_9, ne4_7, ne4_8, ne4_9, ne5_7, ne5_8, ne5_9, ne6_7, ne6_8, ne6_9, ne7_8, ne7_9, ne8_7, ne8_9, ne9_7, ne9_8, ne10_7, ne10_8, ne10_9, ne11_7, ne11_8, ne11_9, ne12_7, ne12_8, ne12_9, ne13_7, ne13_8, ne13_9, ne14_7, ne14_8, ne14_9, ne15_7, ne15_8, ne15_9, ne16_7, ne16_8, ne16_9, K7, K8, K9, SH⟩ := id ty
  refine Go.aload_n X0 hx (hb hby d1_0) rfl rfl ?_
  show Go p e below T0 (mkF m 1 #[.val (.ref b2)] [(.ref b2)]) _
  refine Go.getS X0 hx hZ hown (hwi hw 44 rfl) e0 (Sta.ext O0.2 S7) (hb hby d1_1) ?_
  intro T1 X1 e1
  show Go p e below T1 (mkF m 4 #[.val (.ref b2)] [(.ref b7), (.ref b2)]) _
  refine Go.acmp X1 hx (hb hby d1_4) (pc' := 21) (by decide) rfl rfl (ac_eq _ _) (fun c4 => ?_) (fun c4 => ?_)
  · exact absurd c4 (rne ne2_7)
  show Go p e below T1 (mkF m 7 #[.val (.ref b2)] []) _
  refine Go.aload_n X1 hx (hb hby d1_7) rfl rfl ?_
  show Go p e below T1 (mkF m 8 #[.val (.ref b2)] [(.ref b2)]) _
  refine Go.getS X1 hx hZ hown (hwi hw 45 rfl) e1 (Sta.ext O0.2 S8) (hb hby d1_8) ?_
  intro T2 X2 e2
  show Go p e below T2 (mkF m 11 #[.val (.ref b2)] [(.ref b8), (.ref b2)]) _
  refine Go.acmp X2 hx (hb hby d1_11) (pc' := 21) (by decide) rfl rfl (ac_eq _ _) (fun c11 => ?_) (fun c11 => ?_)
  · exact absurd c11 (rne ne2_8)
  show Go p e below T2 (mkF m 14 #[.val (.ref b2)] []) _
  refine Go.aload_n X2 hx (hb hby d1_14) rfl rfl ?_
  show Go p e below T2 (mkF m 15 #[.val (.ref b2)] [(.ref b2)]) _
  refine Go.getS X2 hx hZ hown (hwi hw 46 rfl) e2 (Sta.ext O0.2 S9) (hb hby d1_15) ?_
  intro T3 X3 e3
  show Go p e below T3 (mkF m 18 #[.val (.ref b2)] [(.ref b9), (.ref b2)]) _
  refine Go.acmp X3 hx (hb hby d1_18) (pc' := 25) (by decide) rfl rfl (ac_ne _ _) (fun c18 => ?_) (fun c18 => ?_)
  rotate_left
  · exact absurd (rne ne2_9) c18
  show Go p e below T3 (mkF m 25 #[.val (.ref b2)] []) _
  refine Go.iconst X3 hx (hb hby d1_25) ?_
  show Go p e below T3 (mkF m 26 #[.val (.ref b2)] [(.int (0 : Int32))]) _
  refine Go.ret_n X3 hx hret hlk (by simp) (hb hby d1_26) (by decide) (by decide) ?_
  rw [e3]
  exact ⟨rfl, N0, rfl⟩
def Qnp3 (Z : State) (b0 b1 b2 b3 b4 b5 b6 b7 b8 b9 b10 b11 b12 b13 b14 b15 b16 bH : Addr) (h0 : Heap) (n0 : Nat) (v : Option Value) (h : Heap) (L : List Loc) : Prop := v = some (.int (0 : Int32)) ∧ Fr n0 L ∧ h = h0
set_option maxRecDepth 65536 in
set_option maxHeartbeats 40000000 in
theorem rmnp3 (l : Launch) (Z : State) (a0 : Array Value) (hw : ∀ d ∈ tables_1, d.before a0 Z = true) (b0 b1 b2 b3 b4 b5 b6 b7 b8 b9 b10 b11 b12 b13 b14 b15 b16 bH : Addr) (h0 : Heap) (n0 : Nat) (Z0 : n0 ≤ h0.size) (O0 : Old Z n0 h0) (ty : Ty Z b0 b1 b2 b3 b4 b5 b6 b7 b8 b9 b10 b11 b12 b13 b14 b15 b16 bH) :
    Met l (⟨"com/example/fylgja/fylgja/Access", "namesPort", "()Z"⟩ : MethodName) prog_1_method_7_code 1 (some .boolean) [] ({ frames := 0, cells := 0, slots := 0, locals := 0 } : Room) Z #[(.ref b3)] h0 (Qnp3 Z b0 b1 b2 b3 b4 b5 b6 b7 b8 b9 b10 b11 b12 b13 b14 b15 b16 bH h0 n0) := by
  refine Met.of (Ls := #[.val (.ref b3)]) (by first | exact plainFor_of_name (by first | (simp [plainName, overriddenIn]; done) | decide +kernel) | decide +kernel) (fun m => by first | (simp [entryFrame, mkF, argsToLocals, Value.category]; done) | rfl) ?_
  intro p e s m below meth c T0 hx hby hml hown hnm hret hlk hZ X0 e0
  have N0 := Fr.nil n0
  show Go p e below T0 (mkF m 0 #[.val (.ref b3)] []) _
  obtain ⟨S0, S1, S2, S3, S4, S5, S6, S7, S8, S9, S10, S11, S12, S13, S14, S15, S16, Ea0, Ea1, Ea2, Ea3, Ea4, Ea5, Ea6, Ea7, Ea8, Ea9, Ea10, Ea11, Ea12, Ea13, Ea14, Ea15, Ea16, ne0_7, ne0_8, ne0_9, ne1_7, ne1_8, ne1_9, ne2_7, ne2_8, ne2_9, ne3_7, ne3_8, ne3_9, ne4_7, ne4_8, ne4_9, ne5_7, ne5_8, ne5_9, ne6_7, ne6_8, ne6_9, ne7_8, ne7_9, ne8_7, ne8_9, ne9_7, ne9_8, ne10_7, ne10_8, ne10_9, ne11_7, ne11_8, ne11_9, ne12_7, ne12_8, ne12_9, ne13_7, ne13_8, ne13_9, ne14_7, ne14_8, ne14_9, ne15_7, ne15_8, ne15_9, ne16_7, ne16_8, ne16_9, K7, K8, K9, SH⟩ := id ty
  refine Go.aload_n X0 hx (hb hby d1_0) rfl rfl ?_
  show Go p e below T0 (mkF m 1 #[.val (.ref b3)] [(.ref b3)]) _
  refine Go.getS X0 hx hZ hown (hwi hw 44 rfl) e0 (Sta.ext O0.2 S7) (hb hby d1_1) ?_
  intro T1 X1 e1
  show Go p e below T1 (mkF m 4 #[.val (.ref b3)] [(.ref b7), (.ref b3)]) _
  refine Go.acmp X1 hx (hb hby d1_4) (pc' := 21) (by decide) rfl rfl (ac_eq _ _) (fun c4 => ?_) (fun c4 => ?_)
  · exact absurd c4 (rne ne3_7)
  show Go p e below T1 (mkF m 7 #[.val (.ref b3)] []) _
  refine Go.aload_n X1 hx (hb hby d1_7) rfl rfl ?_
  show Go p e below T1 (mkF m 8 #[.val (.ref b3)] [(.ref b3)]) _
  refine Go.getS X1 hx hZ hown (hwi hw 45 rfl) e1 (Sta.ext O0.2 S8) (hb hby d1_8) ?_
  intro T2 X2 e2
  show Go p e below T2 (mkF m 11 #[.val (.ref b3)] [(.ref b8), (.ref b3)]) _
  refine Go.acmp X2 hx (hb hby d1_11) (pc' := 21) (by decide) rfl rfl (ac_eq _ _) (fun c11 => ?_) (fun c11 => ?_)
  · exact absurd c11 (rne ne3_8)
  show Go p e below T2 (mkF m 14 #[.val (.ref b3)] []) _
  refine Go.aload_n X2 hx (hb hby d1_14) rfl rfl ?_
  show Go p e below T2 (mkF m 15 #[.val (.ref b3)] [(.ref b3)]) _
  refine Go.getS X2 hx hZ hown (hwi hw 46 rfl) e2 (Sta.ext O0.2 S9) (hb hby d1_15) ?_
  intro T3 X3 e3
  show Go p e below T3 (mkF m 18 #[.val (.ref b3)] [(.ref b9), (.ref b3)]) _
  refine Go.acmp X3 hx (hb hby d1_18) (pc' := 25) (by decide) rfl rfl (ac_ne _ _) (fun c18 => ?_) (fun c18 => ?_)
  rotate_left
  · exact absurd (rne ne3_9) c18
  show Go p e below T3 (mkF m 25 #[.val (.ref b3)] []) _
  refine Go.iconst X3 hx (hb hby d1_25) ?_
  show Go p e below T3 (mkF m 26 #[.val (.ref b3)] [(.int (0 : Int32))]) _
  refine Go.ret_n X3 hx hret hlk (by simp) (hb hby d1_26) (by decide) (by decide) ?_
  rw [e3]
  exact ⟨rfl, N0, rfl⟩
def Qnp4 (Z : State) (b0 b1 b2 b3 b4 b5 b6 b7 b8 b9 b10 b11 b12 b13 b14 b15 b16 bH : Addr) (h0 : Heap) (n0 : Nat) (v : Option Value) (h : Heap) (L : List Loc) : Prop := v = some (.int (0 : Int32)) ∧ Fr n0 L ∧ h = h0
set_option maxRecDepth 65536 in
set_option maxHeartbeats 40000000 in
theorem rmnp4 (l : Launch) (Z : State) (a0 : Array Value) (hw : ∀ d ∈ tables_1, d.before a0 Z = true) (b0 b1 b2 b3 b4 b5 b6 b7 b8 b9 b10 b11 b12 b13 b14 b15 b16 bH : Addr) (h0 : Heap) (n0 : Nat) (Z0 : n0 ≤ h0.size) (O0 : Old Z n0 h0) (ty : Ty Z b0 b1 b2 b3 b4 b5 b6 b7 b8 b9 b10 b11 b12 b13 b14 b15 b16 bH) :
    Met l (⟨"com/example/fylgja/fylgja/Access", "namesPort", "()Z"⟩ : MethodName) prog_1_method_7_code 1 (some .boolean) [] ({ frames := 0, cells := 0, slots := 0, locals := 0 } : Room) Z #[(.ref b4)] h0 (Qnp4 Z b0 b1 b2 b3 b4 b5 b6 b7 b8 b9 b10 b11 b12 b13 b14 b15 b16 bH h0 n0) := by
  refine Met.of (Ls := #[.val (.ref b4)]) (by first | exact plainFor_of_name (by first | (simp [plainName, overriddenIn]; done) | decide +kernel) | decide +kernel) (fun m => by first | (simp [entryFrame, mkF, argsToLocals, Value.category]; done) | rfl) ?_
  intro p e s m below meth c T0 hx hby hml hown hnm hret hlk hZ X0 e0
  have N0 := Fr.nil n0
  show Go p e below T0 (mkF m 0 #[.val (.ref b4)] []) _
  obtain ⟨S0, S1, S2, S3, S4, S5, S6, S7, S8, S9, S10, S11, S12, S13, S14, S15, S16, Ea0, Ea1, Ea2, Ea3, Ea4, Ea5, Ea6, Ea7, Ea8, Ea9, Ea10, Ea11, Ea12, Ea13, Ea14, Ea15, Ea16, ne0_7, ne0_8, ne0_9, ne1_7, ne1_8, ne1_9, ne2_7, ne2_8, ne2_9, ne3_7, ne3_8, ne3_9, ne4_7, ne4_8, ne4_9, ne5_7, ne5_8, ne5_9, ne6_7, ne6_8, ne6_9, ne7_8, ne7_9, ne8_7, ne8_9, ne9_7, ne9_8, ne10_7, ne10_8, ne10_9, ne11_7, ne11_8, ne11_9, ne12_7, ne12_8, ne12_9, ne13_7, ne13_8, ne13_9, ne14_7, ne14_8, ne14_9, ne15_7, ne15_8, ne15_9, ne16_7, ne16_8, ne16_9, K7, K8, K9, SH⟩ := id ty
  refine Go.aload_n X0 hx (hb hby d1_0) rfl rfl ?_
  show Go p e below T0 (mkF m 1 #[.val (.ref b4)] [(.ref b4)]) _
  refine Go.getS X0 hx hZ hown (hwi hw 44 rfl) e0 (Sta.ext O0.2 S7) (hb hby d1_1) ?_
  intro T1 X1 e1
  show Go p e below T1 (mkF m 4 #[.val (.ref b4)] [(.ref b7), (.ref b4)]) _
  refine Go.acmp X1 hx (hb hby d1_4) (pc' := 21) (by decide) rfl rfl (ac_eq _ _) (fun c4 => ?_) (fun c4 => ?_)
  · exact absurd c4 (rne ne4_7)
  show Go p e below T1 (mkF m 7 #[.val (.ref b4)] []) _
  refine Go.aload_n X1 hx (hb hby d1_7) rfl rfl ?_
  show Go p e below T1 (mkF m 8 #[.val (.ref b4)] [(.ref b4)]) _
  refine Go.getS X1 hx hZ hown (hwi hw 45 rfl) e1 (Sta.ext O0.2 S8) (hb hby d1_8) ?_
  intro T2 X2 e2
  show Go p e below T2 (mkF m 11 #[.val (.ref b4)] [(.ref b8), (.ref b4)]) _
  refine Go.acmp X2 hx (hb hby d1_11) (pc' := 21) (by decide) rfl rfl (ac_eq _ _) (fun c11 => ?_) (fun c11 => ?_)
  · exact absurd c11 (rne ne4_8)
  show Go p e below T2 (mkF m 14 #[.val (.ref b4)] []) _
  refine Go.aload_n X2 hx (hb hby d1_14) rfl rfl ?_
  show Go p e below T2 (mkF m 15 #[.val (.ref b4)] [(.ref b4)]) _
  refine Go.getS X2 hx hZ hown (hwi hw 46 rfl) e2 (Sta.ext O0.2 S9) (hb hby d1_15) ?_
  intro T3 X3 e3
  show Go p e below T3 (mkF m 18 #[.val (.ref b4)] [(.ref b9), (.ref b4)]) _
  refine Go.acmp X3 hx (hb hby d1_18) (pc' := 25) (by decide) rfl rfl (ac_ne _ _) (fun c18 => ?_) (fun c18 => ?_)
  rotate_left
  · exact absurd (rne ne4_9) c18
  show Go p e below T3 (mkF m 25 #[.val (.ref b4)] []) _
  refine Go.iconst X3 hx (hb hby d1_25) ?_
  show Go p e below T3 (mkF m 26 #[.val (.ref b4)] [(.int (0 : Int32))]) _
  refine Go.ret_n X3 hx hret hlk (by simp) (hb hby d1_26) (by decide) (by decide) ?_
  rw [e3]
  exact ⟨rfl, N0, rfl⟩
def Qnp5 (Z : State) (b0 b1 b2 b3 b4 b5 b6 b7 b8 b9 b10 b11 b12 b13 b14 b15 b16 bH : Addr) (h0 : Heap) (n0 : Nat) (v : Option Value) (h : Heap) (L : List Loc) : Prop := v = some (.int (0 : Int32)) ∧ Fr n0 L ∧ h = h0
set_option maxRecDepth 65536 in
set_option maxHeartbeats 40000000 in
theorem rmnp5 (l : Launch) (Z : State) (a0 : Array Value) (hw : ∀ d ∈ tables_1, d.before a0 Z = true) (b0 b1 b2 b3 b4 b5 b6 b7 b8 b9 b10 b11 b12 b13 b14 b15 b16 bH : Addr) (h0 : Heap) (n0 : Nat) (Z0 : n0 ≤ h0.size) (O0 : Old Z n0 h0) (ty : Ty Z b0 b1 b2 b3 b4 b5 b6 b7 b8 b9 b10 b11 b12 b13 b14 b15 b16 bH) :
    Met l (⟨"com/example/fylgja/fylgja/Access", "namesPort", "()Z"⟩ : MethodName) prog_1_method_7_code 1 (some .boolean) [] ({ frames := 0, cells := 0, slots := 0, locals := 0 } : Room) Z #[(.ref b5)] h0 (Qnp5 Z b0 b1 b2 b3 b4 b5 b6 b7 b8 b9 b10 b11 b12 b13 b14 b15 b16 bH h0 n0) := by
  refine Met.of (Ls := #[.val (.ref b5)]) (by first | exact plainFor_of_name (by first | (simp [plainName, overriddenIn]; done) | decide +kernel) | decide +kernel) (fun m => by first | (simp [entryFrame, mkF, argsToLocals, Value.category]; done) | rfl) ?_
  intro p e s m below meth c T0 hx hby hml hown hnm hret hlk hZ X0 e0
  have N0 := Fr.nil n0
  show Go p e below T0 (mkF m 0 #[.val (.ref b5)] []) _
  obtain ⟨S0, S1, S2, S3, S4, S5, S6, S7, S8, S9, S10, S11, S12, S13, S14, S15, S16, Ea0, Ea1, Ea2, Ea3, Ea4, Ea5, Ea6, Ea7, Ea8, Ea9, Ea10, Ea11, Ea12, Ea13, Ea14, Ea15, Ea16, ne0_7, ne0_8, ne0_9, ne1_7, ne1_8, ne1_9, ne2_7, ne2_8, ne2_9, ne3_7, ne3_8, ne3_9, ne4_7, ne4_8, ne4_9, ne5_7, ne5_8, ne5_9, ne6_7, ne6_8, ne6_9, ne7_8, ne7_9, ne8_7, ne8_9, ne9_7, ne9_8, ne10_7, ne10_8, ne10_9, ne11_7, ne11_8, ne11_9, ne12_7, ne12_8, ne12_9, ne13_7, ne13_8, ne13_9, ne14_7, ne14_8, ne14_9, ne15_7, ne15_8, ne15_9, ne16_7, ne16_8, ne16_9, K7, K8, K9, SH⟩ := id ty
  refine Go.aload_n X0 hx (hb hby d1_0) rfl rfl ?_
  show Go p e below T0 (mkF m 1 #[.val (.ref b5)] [(.ref b5)]) _
  refine Go.getS X0 hx hZ hown (hwi hw 44 rfl) e0 (Sta.ext O0.2 S7) (hb hby d1_1) ?_
  intro T1 X1 e1
  show Go p e below T1 (mkF m 4 #[.val (.ref b5)] [(.ref b7), (.ref b5)]) _
  refine Go.acmp X1 hx (hb hby d1_4) (pc' := 21) (by decide) rfl rfl (ac_eq _ _) (fun c4 => ?_) (fun c4 => ?_)
  · exact absurd c4 (rne ne5_7)
  show Go p e below T1 (mkF m 7 #[.val (.ref b5)] []) _
  refine Go.aload_n X1 hx (hb hby d1_7) rfl rfl ?_
  show Go p e below T1 (mkF m 8 #[.val (.ref b5)] [(.ref b5)]) _
  refine Go.getS X1 hx hZ hown (hwi hw 45 rfl) e1 (Sta.ext O0.2 S8) (hb hby d1_8) ?_
  intro T2 X2 e2
  show Go p e below T2 (mkF m 11 #[.val (.ref b5)] [(.ref b8), (.ref b5)]) _
  refine Go.acmp X2 hx (hb hby d1_11) (pc' := 21) (by decide) rfl rfl (ac_eq _ _) (fun c11 => ?_) (fun c11 => ?_)
  · exact absurd c11 (rne ne5_8)
  show Go p e below T2 (mkF m 14 #[.val (.ref b5)] []) _
  refine Go.aload_n X2 hx (hb hby d1_14) rfl rfl ?_
  show Go p e below T2 (mkF m 15 #[.val (.ref b5)] [(.ref b5)]) _
  refine Go.getS X2 hx hZ hown (hwi hw 46 rfl) e2 (Sta.ext O0.2 S9) (hb hby d1_15) ?_
  intro T3 X3 e3
  show Go p e below T3 (mkF m 18 #[.val (.ref b5)] [(.ref b9), (.ref b5)]) _
  refine Go.acmp X3 hx (hb hby d1_18) (pc' := 25) (by decide) rfl rfl (ac_ne _ _) (fun c18 => ?_) (fun c18 => ?_)
  rotate_left
  · exact absurd (rne ne5_9) c18
  show Go p e below T3 (mkF m 25 #[.val (.ref b5)] []) _
  refine Go.iconst X3 hx (hb hby d1_25) ?_
  show Go p e below T3 (mkF m 26 #[.val (.ref b5)] [(.int (0 : Int32))]) _
  refine Go.ret_n X3 hx hret hlk (by simp) (hb hby d1_26) (by decide) (by decide) ?_
  rw [e3]
  exact ⟨rfl, N0, rfl⟩
def Qnp6 (Z : State) (b0 b1 b2 b3 b4 b5 b6 b7 b8 b9 b10 b11 b12 b13 b14 b15 b16 bH : Addr) (h0 : Heap) (n0 : Nat) (v : Option Value) (h : Heap) (L : List Loc) : Prop := v = some (.int (0 : Int32)) ∧ Fr n0 L ∧ h = h0
set_option maxRecDepth 65536 in
set_option maxHeartbeats 40000000 in
theorem rmnp6 (l : Launch) (Z : State) (a0 : Array Value) (hw : ∀ d ∈ tables_1, d.before a0 Z = true) (b0 b1 b2 b3 b4 b5 b6 b7 b8 b9 b10 b11 b12 b13 b14 b15 b16 bH : Addr) (h0 : Heap) (n0 : Nat) (Z0 : n0 ≤ h0.size) (O0 : Old Z n0 h0) (ty : Ty Z b0 b1 b2 b3 b4 b5 b6 b7 b8 b9 b10 b11 b12 b13 b14 b15 b16 bH) :
    Met l (⟨"com/example/fylgja/fylgja/Access", "namesPort", "()Z"⟩ : MethodName) prog_1_method_7_code 1 (some .boolean) [] ({ frames := 0, cells := 0, slots := 0, locals := 0 } : Room) Z #[(.ref b6)] h0 (Qnp6 Z b0 b1 b2 b3 b4 b5 b6 b7 b8 b9 b10 b11 b12 b13 b14 b15 b16 bH h0 n0) := by
  refine Met.of (Ls := #[.val (.ref b6)]) (by first | exact plainFor_of_name (by first | (simp [plainName, overriddenIn]; done) | decide +kernel) | decide +kernel) (fun m => by first | (simp [entryFrame, mkF, argsToLocals, Value.category]; done) | rfl) ?_
  intro p e s m below meth c T0 hx hby hml hown hnm hret hlk hZ X0 e0
  have N0 := Fr.nil n0
  show Go p e below T0 (mkF m 0 #[.val (.ref b6)] []) _
  obtain ⟨S0, S1, S2, S3, S4, S5, S6, S7, S8, S9, S10, S11, S12, S13, S14, S15, S16, Ea0, Ea1, Ea2, Ea3, Ea4, Ea5, Ea6, Ea7, Ea8, Ea9, Ea10, Ea11, Ea12, Ea13, Ea14, Ea15, Ea16, ne0_7, ne0_8, ne0_9, ne1_7, ne1_8, ne1_9, ne2_7, ne2_8, ne2_9, ne3_7, ne3_8, ne3_9, ne4_7, ne4_8, ne4_9, ne5_7, ne5_8, ne5_9, ne6_7, ne6_8, ne6_9, ne7_8, ne7_9, ne8_7, ne8_9, ne9_7, ne9_8, ne10_7, ne10_8, ne10_9, ne11_7, ne11_8, ne11_9, ne12_7, ne12_8, ne12_9, ne13_7, ne13_8, ne13_9, ne14_7, ne14_8, ne14_9, ne15_7, ne15_8, ne15_9, ne16_7, ne16_8, ne16_9, K7, K8, K9, SH⟩ := id ty
  refine Go.aload_n X0 hx (hb hby d1_0) rfl rfl ?_
  show Go p e below T0 (mkF m 1 #[.val (.ref b6)] [(.ref b6)]) _
  refine Go.getS X0 hx hZ hown (hwi hw 44 rfl) e0 (Sta.ext O0.2 S7) (hb hby d1_1) ?_
  intro T1 X1 e1
  show Go p e below T1 (mkF m 4 #[.val (.ref b6)] [(.ref b7), (.ref b6)]) _
  refine Go.acmp X1 hx (hb hby d1_4) (pc' := 21) (by decide) rfl rfl (ac_eq _ _) (fun c4 => ?_) (fun c4 => ?_)
  · exact absurd c4 (rne ne6_7)
  show Go p e below T1 (mkF m 7 #[.val (.ref b6)] []) _
  refine Go.aload_n X1 hx (hb hby d1_7) rfl rfl ?_
  show Go p e below T1 (mkF m 8 #[.val (.ref b6)] [(.ref b6)]) _
  refine Go.getS X1 hx hZ hown (hwi hw 45 rfl) e1 (Sta.ext O0.2 S8) (hb hby d1_8) ?_
  intro T2 X2 e2
  show Go p e below T2 (mkF m 11 #[.val (.ref b6)] [(.ref b8), (.ref b6)]) _
  refine Go.acmp X2 hx (hb hby d1_11) (pc' := 21) (by decide) rfl rfl (ac_eq _ _) (fun c11 => ?_) (fun c11 => ?_)
  · exact absurd c11 (rne ne6_8)
  show Go p e below T2 (mkF m 14 #[.val (.ref b6)] []) _
  refine Go.aload_n X2 hx (hb hby d1_14) rfl rfl ?_
  show Go p e below T2 (mkF m 15 #[.val (.ref b6)] [(.ref b6)]) _
  refine Go.getS X2 hx hZ hown (hwi hw 46 rfl) e2 (Sta.ext O0.2 S9) (hb hby d1_15) ?_
  intro T3 X3 e3
  show Go p e below T3 (mkF m 18 #[.val (.ref b6)] [(.ref b9), (.ref b6)]) _
  refine Go.acmp X3 hx (hb hby d1_18) (pc' := 25) (by decide) rfl rfl (ac_ne _ _) (fun c18 => ?_) (fun c18 => ?_)
  rotate_left
  · exact absurd (rne ne6_9) c18
  show Go p e below T3 (mkF m 25 #[.val (.ref b6)] []) _
  refine Go.iconst X3 hx (hb hby d1_25) ?_
  show Go p e below T3 (mkF m 26 #[.val (.ref b6)] [(.int (0 : Int32))]) _
  refine Go.ret_n X3 hx hret hlk (by simp) (hb hby d1_26) (by decide) (by decide) ?_
  rw [e3]
  exact ⟨rfl, N0, rfl⟩
def Qnp7 (Z : State) (b0 b1 b2 b3 b4 b5 b6 b7 b8 b9 b10 b11 b12 b13 b14 b15 b16 bH : Addr) (h0 : Heap) (n0 : Nat) (v : Option Value) (h : Heap) (L : List Loc) : Prop := v = some (.int (1 : Int32)) ∧ Fr n0 L ∧ h = h0
set_option maxRecDepth 65536 in
set_option maxHeartbeats 40000000 in
theorem rmnp7 (l : Launch) (Z : State) (a0 : Array Value) (hw : ∀ d ∈ tables_1, d.before a0 Z = true) (b0 b1 b2 b3 b4 b5 b6 b7 b8 b9 b10 b11 b12 b13 b14 b15 b16 bH : Addr) (h0 : Heap) (n0 : Nat) (Z0 : n0 ≤ h0.size) (O0 : Old Z n0 h0) (ty : Ty Z b0 b1 b2 b3 b4 b5 b6 b7 b8 b9 b10 b11 b12 b13 b14 b15 b16 bH) :
    Met l (⟨"com/example/fylgja/fylgja/Access", "namesPort", "()Z"⟩ : MethodName) prog_1_method_7_code 1 (some .boolean) [] ({ frames := 0, cells := 0, slots := 0, locals := 0 } : Room) Z #[(.ref b7)] h0 (Qnp7 Z b0 b1 b2 b3 b4 b5 b6 b7 b8 b9 b10 b11 b12 b13 b14 b15 b16 bH h0 n0) := by
  refine Met.of (Ls := #[.val (.ref b7)]) (by first | exact plainFor_of_name (by first | (simp [plainName, overriddenIn]; done) | decide +kernel) | decide +kernel) (fun m => by first | (simp [entryFrame, mkF, argsToLocals, Value.category]; done) | rfl) ?_
  intro p e s m below meth c T0 hx hby hml hown hnm hret hlk hZ X0 e0
  have N0 := Fr.nil n0
  show Go p e below T0 (mkF m 0 #[.val (.ref b7)] []) _
  obtain ⟨S0, S1, S2, S3, S4, S5, S6, S7, S8, S9, S10, S11, S12, S13, S14, S15, S16, Ea0, Ea1, Ea2, Ea3, Ea4, Ea5, Ea6, Ea7, Ea8, Ea9, Ea10, Ea11, Ea12, Ea13, Ea14, Ea15, Ea16, ne0_7, ne0_8, ne0_9, ne1_7, ne1_8, ne1_9, ne2_7, ne2_8, ne2_9, ne3_7, ne3_8, ne3_9, ne4_7, ne4_8, ne4_9, ne5_7, ne5_8, ne5_9, ne6_7, ne6_8, ne6_9, ne7_8, ne7_9, ne8_7, ne8_9, ne9_7, ne9_8, ne10_7, ne10_8, ne10_9, ne11_7, ne11_8, ne11_9, ne12_7, ne12_8, ne12_9, ne13_7, ne13_8, ne13_9, ne14_7, ne14_8, ne14_9, ne15_7, ne15_8, ne15_9, ne16_7, ne16_8, ne16_9, K7, K8, K9, SH⟩ := id ty
  refine Go.aload_n X0 hx (hb hby d1_0) rfl rfl ?_
  show Go p e below T0 (mkF m 1 #[.val (.ref b7)] [(.ref b7)]) _
  refine Go.getS X0 hx hZ hown (hwi hw 44 rfl) e0 (Sta.ext O0.2 S7) (hb hby d1_1) ?_
  intro T1 X1 e1
  show Go p e below T1 (mkF m 4 #[.val (.ref b7)] [(.ref b7), (.ref b7)]) _
  refine Go.acmp X1 hx (hb hby d1_4) (pc' := 21) (by decide) rfl rfl (ac_eq _ _) (fun c4 => ?_) (fun c4 => ?_)
  rotate_left
  · exact absurd rfl c4
  show Go p e below T1 (mkF m 21 #[.val (.ref b7)] []) _
  refine Go.iconst X1 hx (hb hby d1_21) ?_
  show Go p e below T1 (mkF m 22 #[.val (.ref b7)] [(.int (1 : Int32))]) _
  refine Go.goto X1 hx (hb hby d1_22) (pc' := 26) (by decide) ?_
  show Go p e below T1 (mkF m 26 #[.val (.ref b7)] [(.int (1 : Int32))]) _
  refine Go.ret_n X1 hx hret hlk (by simp) (hb hby d1_26) (by decide) (by decide) ?_
  rw [e1]
  exact ⟨rfl, N0, rfl⟩
def Qnp8 (Z : State) (b0 b1 b2 b3 b4 b5 b6 b7 b8 b9 b10 b11 b12 b13 b14 b15 b16 bH : Addr) (h0 : Heap) (n0 : Nat) (v : Option Value) (h : Heap) (L : List Loc) : Prop := v = some (.int (1 : Int32)) ∧ Fr n0 L ∧ h = h0
set_option maxRecDepth 65536 in
set_option maxHeartbeats 40000000 in
theorem rmnp8 (l : Launch) (Z : State) (a0 : Array Value) (hw : ∀ d ∈ tables_1, d.before a0 Z = true) (b0 b1 b2 b3 b4 b5 b6 b7 b8 b9 b10 b11 b12 b13 b14 b15 b16 bH : Addr) (h0 : Heap) (n0 : Nat) (Z0 : n0 ≤ h0.size) (O0 : Old Z n0 h0) (ty : Ty Z b0 b1 b2 b3 b4 b5 b6 b7 b8 b9 b10 b11 b12 b13 b14 b15 b16 bH) :
    Met l (⟨"com/example/fylgja/fylgja/Access", "namesPort", "()Z"⟩ : MethodName) prog_1_method_7_code 1 (some .boolean) [] ({ frames := 0, cells := 0, slots := 0, locals := 0 } : Room) Z #[(.ref b8)] h0 (Qnp8 Z b0 b1 b2 b3 b4 b5 b6 b7 b8 b9 b10 b11 b12 b13 b14 b15 b16 bH h0 n0) := by
  refine Met.of (Ls := #[.val (.ref b8)]) (by first | exact plainFor_of_name (by first | (simp [plainName, overriddenIn]; done) | decide +kernel) | decide +kernel) (fun m => by first | (simp [entryFrame, mkF, argsToLocals, Value.category]; done) | rfl) ?_
  intro p e s m below meth c T0 hx hby hml hown hnm hret hlk hZ X0 e0
  have N0 := Fr.nil n0
  show Go p e below T0 (mkF m 0 #[.val (.ref b8)] []) _
  obtain ⟨S0, S1, S2, S3, S4, S5, S6, S7, S8, S9, S10, S11, S12, S13, S14, S15, S16, Ea0, Ea1, Ea2, Ea3, Ea4, Ea5, Ea6, Ea7, Ea8, Ea9, Ea10, Ea11, Ea12, Ea13, Ea14, Ea15, Ea16, ne0_7, ne0_8, ne0_9, ne1_7, ne1_8, ne1_9, ne2_7, ne2_8, ne2_9, ne3_7, ne3_8, ne3_9, ne4_7, ne4_8, ne4_9, ne5_7, ne5_8, ne5_9, ne6_7, ne6_8, ne6_9, ne7_8, ne7_9, ne8_7, ne8_9, ne9_7, ne9_8, ne10_7, ne10_8, ne10_9, ne11_7, ne11_8, ne11_9, ne12_7, ne12_8, ne12_9, ne13_7, ne13_8, ne13_9, ne14_7, ne14_8, ne14_9, ne15_7, ne15_8, ne15_9, ne16_7, ne16_8, ne16_9, K7, K8, K9, SH⟩ := id ty
  refine Go.aload_n X0 hx (hb hby d1_0) rfl rfl ?_
  show Go p e below T0 (mkF m 1 #[.val (.ref b8)] [(.ref b8)]) _
  refine Go.getS X0 hx hZ hown (hwi hw 44 rfl) e0 (Sta.ext O0.2 S7) (hb hby d1_1) ?_
  intro T1 X1 e1
  show Go p e below T1 (mkF m 4 #[.val (.ref b8)] [(.ref b7), (.ref b8)]) _
  refine Go.acmp X1 hx (hb hby d1_4) (pc' := 21) (by decide) rfl rfl (ac_eq _ _) (fun c4 => ?_) (fun c4 => ?_)
  · exact absurd c4 (rne ne8_7)
  show Go p e below T1 (mkF m 7 #[.val (.ref b8)] []) _
  refine Go.aload_n X1 hx (hb hby d1_7) rfl rfl ?_
  show Go p e below T1 (mkF m 8 #[.val (.ref b8)] [(.ref b8)]) _
  refine Go.getS X1 hx hZ hown (hwi hw 45 rfl) e1 (Sta.ext O0.2 S8) (hb hby d1_8) ?_
  intro T2 X2 e2
  show Go p e below T2 (mkF m 11 #[.val (.ref b8)] [(.ref b8), (.ref b8)]) _
  refine Go.acmp X2 hx (hb hby d1_11) (pc' := 21) (by decide) rfl rfl (ac_eq _ _) (fun c11 => ?_) (fun c11 => ?_)
  rotate_left
  · exact absurd rfl c11
  show Go p e below T2 (mkF m 21 #[.val (.ref b8)] []) _
  refine Go.iconst X2 hx (hb hby d1_21) ?_
  show Go p e below T2 (mkF m 22 #[.val (.ref b8)] [(.int (1 : Int32))]) _
  refine Go.goto X2 hx (hb hby d1_22) (pc' := 26) (by decide) ?_
  show Go p e below T2 (mkF m 26 #[.val (.ref b8)] [(.int (1 : Int32))]) _
  refine Go.ret_n X2 hx hret hlk (by simp) (hb hby d1_26) (by decide) (by decide) ?_
  rw [e2]
  exact ⟨rfl, N0, rfl⟩
def Qnp9 (Z : State) (b0 b1 b2 b3 b4 b5 b6 b7 b8 b9 b10 b11 b12 b13 b14 b15 b16 bH : Addr) (h0 : Heap) (n0 : Nat) (v : Option Value) (h : Heap) (L : List Loc) : Prop := v = some (.int (1 : Int32)) ∧ Fr n0 L ∧ h = h0
set_option maxRecDepth 65536 in
set_option maxHeartbeats 40000000 in
theorem rmnp9 (l : Launch) (Z : State) (a0 : Array Value) (hw : ∀ d ∈ tables_1, d.before a0 Z = true) (b0 b1 b2 b3 b4 b5 b6 b7 b8 b9 b10 b11 b12 b13 b14 b15 b16 bH : Addr) (h0 : Heap) (n0 : Nat) (Z0 : n0 ≤ h0.size) (O0 : Old Z n0 h0) (ty : Ty Z b0 b1 b2 b3 b4 b5 b6 b7 b8 b9 b10 b11 b12 b13 b14 b15 b16 bH) :
    Met l (⟨"com/example/fylgja/fylgja/Access", "namesPort", "()Z"⟩ : MethodName) prog_1_method_7_code 1 (some .boolean) [] ({ frames := 0, cells := 0, slots := 0, locals := 0 } : Room) Z #[(.ref b9)] h0 (Qnp9 Z b0 b1 b2 b3 b4 b5 b6 b7 b8 b9 b10 b11 b12 b13 b14 b15 b16 bH h0 n0) := by
  refine Met.of (Ls := #[.val (.ref b9)]) (by first | exact plainFor_of_name (by first | (simp [plainName, overriddenIn]; done) | decide +kernel) | decide +kernel) (fun m => by first | (simp [entryFrame, mkF, argsToLocals, Value.category]; done) | rfl) ?_
  intro p e s m below meth c T0 hx hby hml hown hnm hret hlk hZ X0 e0
  have N0 := Fr.nil n0
  show Go p e below T0 (mkF m 0 #[.val (.ref b9)] []) _
  obtain ⟨S0, S1, S2, S3, S4, S5, S6, S7, S8, S9, S10, S11, S12, S13, S14, S15, S16, Ea0, Ea1, Ea2, Ea3, Ea4, Ea5, Ea6, Ea7, Ea8, Ea9, Ea10, Ea11, Ea12, Ea13, Ea14, Ea15, Ea16, ne0_7, ne0_8, ne0_9, ne1_7, ne1_8, ne1_9, ne2_7, ne2_8, ne2_9, ne3_7, ne3_8, ne3_9, ne4_7, ne4_8, ne4_9, ne5_7, ne5_8, ne5_9, ne6_7, ne6_8, ne6_9, ne7_8, ne7_9, ne8_7, ne8_9, ne9_7, ne9_8, ne10_7, ne10_8, ne10_9, ne11_7, ne11_8, ne11_9, ne12_7, ne12_8, ne12_9, ne13_7, ne13_8, ne13_9, ne14_7, ne14_8, ne14_9, ne15_7, ne15_8, ne15_9, ne16_7, ne16_8, ne16_9, K7, K8, K9, SH⟩ := id ty
  refine Go.aload_n X0 hx (hb hby d1_0) rfl rfl ?_
  show Go p e below T0 (mkF m 1 #[.val (.ref b9)] [(.ref b9)]) _
  refine Go.getS X0 hx hZ hown (hwi hw 44 rfl) e0 (Sta.ext O0.2 S7) (hb hby d1_1) ?_
  intro T1 X1 e1
  show Go p e below T1 (mkF m 4 #[.val (.ref b9)] [(.ref b7), (.ref b9)]) _
  refine Go.acmp X1 hx (hb hby d1_4) (pc' := 21) (by decide) rfl rfl (ac_eq _ _) (fun c4 => ?_) (fun c4 => ?_)
  · exact absurd c4 (rne ne9_7)
  show Go p e below T1 (mkF m 7 #[.val (.ref b9)] []) _
  refine Go.aload_n X1 hx (hb hby d1_7) rfl rfl ?_
  show Go p e below T1 (mkF m 8 #[.val (.ref b9)] [(.ref b9)]) _
  refine Go.getS X1 hx hZ hown (hwi hw 45 rfl) e1 (Sta.ext O0.2 S8) (hb hby d1_8) ?_
  intro T2 X2 e2
  show Go p e below T2 (mkF m 11 #[.val (.ref b9)] [(.ref b8), (.ref b9)]) _
  refine Go.acmp X2 hx (hb hby d1_11) (pc' := 21) (by decide) rfl rfl (ac_eq _ _) (fun c11 => ?_) (fun c11 => ?_)
  · exact absurd c11 (rne ne9_8)
  show Go p e below T2 (mkF m 14 #[.val (.ref b9)] []) _
  refine Go.aload_n X2 hx (hb hby d1_14) rfl rfl ?_
  show Go p e below T2 (mkF m 15 #[.val (.ref b9)] [(.ref b9)]) _
  refine Go.getS X2 hx hZ hown (hwi hw 46 rfl) e2 (Sta.ext O0.2 S9) (hb hby d1_15) ?_
  intro T3 X3 e3
  show Go p e below T3 (mkF m 18 #[.val (.ref b9)] [(.ref b9), (.ref b9)]) _
  refine Go.acmp X3 hx (hb hby d1_18) (pc' := 25) (by decide) rfl rfl (ac_ne _ _) (fun c18 => ?_) (fun c18 => ?_)
  · exact absurd rfl c18
  replace c18 := Decidable.not_not.mp c18
  show Go p e below T3 (mkF m 21 #[.val (.ref b9)] []) _
  refine Go.iconst X3 hx (hb hby d1_21) ?_
  show Go p e below T3 (mkF m 22 #[.val (.ref b9)] [(.int (1 : Int32))]) _
  refine Go.goto X3 hx (hb hby d1_22) (pc' := 26) (by decide) ?_
  show Go p e below T3 (mkF m 26 #[.val (.ref b9)] [(.int (1 : Int32))]) _
  refine Go.ret_n X3 hx hret hlk (by simp) (hb hby d1_26) (by decide) (by decide) ?_
  rw [e3]
  exact ⟨rfl, N0, rfl⟩
def Qnp10 (Z : State) (b0 b1 b2 b3 b4 b5 b6 b7 b8 b9 b10 b11 b12 b13 b14 b15 b16 bH : Addr) (h0 : Heap) (n0 : Nat) (v : Option Value) (h : Heap) (L : List Loc) : Prop := v = some (.int (0 : Int32)) ∧ Fr n0 L ∧ h = h0
set_option maxRecDepth 65536 in
set_option maxHeartbeats 40000000 in
theorem rmnp10 (l : Launch) (Z : State) (a0 : Array Value) (hw : ∀ d ∈ tables_1, d.before a0 Z = true) (b0 b1 b2 b3 b4 b5 b6 b7 b8 b9 b10 b11 b12 b13 b14 b15 b16 bH : Addr) (h0 : Heap) (n0 : Nat) (Z0 : n0 ≤ h0.size) (O0 : Old Z n0 h0) (ty : Ty Z b0 b1 b2 b3 b4 b5 b6 b7 b8 b9 b10 b11 b12 b13 b14 b15 b16 bH) :
    Met l (⟨"com/example/fylgja/fylgja/Access", "namesPort", "()Z"⟩ : MethodName) prog_1_method_7_code 1 (some .boolean) [] ({ frames := 0, cells := 0, slots := 0, locals := 0 } : Room) Z #[(.ref b10)] h0 (Qnp10 Z b0 b1 b2 b3 b4 b5 b6 b7 b8 b9 b10 b11 b12 b13 b14 b15 b16 bH h0 n0) := by
  refine Met.of (Ls := #[.val (.ref b10)]) (by first | exact plainFor_of_name (by first | (simp [plainName, overriddenIn]; done) | decide +kernel) | decide +kernel) (fun m => by first | (simp [entryFrame, mkF, argsToLocals, Value.category]; done) | rfl) ?_
  intro p e s m below meth c T0 hx hby hml hown hnm hret hlk hZ X0 e0
  have N0 := Fr.nil n0
  show Go p e below T0 (mkF m 0 #[.val (.ref b10)] []) _
  obtain ⟨S0, S1, S2, S3, S4, S5, S6, S7, S8, S9, S10, S11, S12, S13, S14, S15, S16, Ea0, Ea1, Ea2, Ea3, Ea4, Ea5, Ea6, Ea7, Ea8, Ea9, Ea10, Ea11, Ea12, Ea13, Ea14, Ea15, Ea16, ne0_7, ne0_8, ne0_9, ne1_7, ne1_8, ne1_9, ne2_7, ne2_8, ne2_9, ne3_7, ne3_8, ne3_9, ne4_7, ne4_8, ne4_9, ne5_7, ne5_8, ne5_9, ne6_7, ne6_8, ne6_9, ne7_8, ne7_9, ne8_7, ne8_9, ne9_7, ne9_8, ne10_7, ne10_8, ne10_9, ne11_7, ne11_8, ne11_9, ne12_7, ne12_8, ne12_9, ne13_7, ne13_8, ne13_9, ne14_7, ne14_8, ne14_9, ne15_7, ne15_8, ne15_9, ne16_7, ne16_8, ne16_9, K7, K8, K9, SH⟩ := id ty
  refine Go.aload_n X0 hx (hb hby d1_0) rfl rfl ?_
  show Go p e below T0 (mkF m 1 #[.val (.ref b10)] [(.ref b10)]) _
  refine Go.getS X0 hx hZ hown (hwi hw 44 rfl) e0 (Sta.ext O0.2 S7) (hb hby d1_1) ?_
  intro T1 X1 e1
  show Go p e below T1 (mkF m 4 #[.val (.ref b10)] [(.ref b7), (.ref b10)]) _
  refine Go.acmp X1 hx (hb hby d1_4) (pc' := 21) (by decide) rfl rfl (ac_eq _ _) (fun c4 => ?_) (fun c4 => ?_)
  · exact absurd c4 (rne ne10_7)
  show Go p e below T1 (mkF m 7 #[.val (.ref b10)] []) _
  refine Go.aload_n X1 hx (hb hby d1_7) rfl rfl ?_
  show Go p e below T1 (mkF m 8 #[.val (.ref b10)] [(.ref b10)]) _
  refine Go.getS X1 hx hZ hown (hwi hw 45 rfl) e1 (Sta.ext O0.2 S8) (hb hby d1_8) ?_
  intro T2 X2 e2
  show Go p e below T2 (mkF m 11 #[.val (.ref b10)] [(.ref b8), (.ref b10)]) _
  refine Go.acmp X2 hx (hb hby d1_11) (pc' := 21) (by decide) rfl rfl (ac_eq _ _) (fun c11 => ?_) (fun c11 => ?_)
  · exact absurd c11 (rne ne10_8)
  show Go p e below T2 (mkF m 14 #[.val (.ref b10)] []) _
  refine Go.aload_n X2 hx (hb hby d1_14) rfl rfl ?_
  show Go p e below T2 (mkF m 15 #[.val (.ref b10)] [(.ref b10)]) _
  refine Go.getS X2 hx hZ hown (hwi hw 46 rfl) e2 (Sta.ext O0.2 S9) (hb hby d1_15) ?_
  intro T3 X3 e3
  show Go p e below T3 (mkF m 18 #[.val (.ref b10)] [(.ref b9), (.ref b10)]) _
  refine Go.acmp X3 hx (hb hby d1_18) (pc' := 25) (by decide) rfl rfl (ac_ne _ _) (fun c18 => ?_) (fun c18 => ?_)
  rotate_left
  · exact absurd (rne ne10_9) c18
  show Go p e below T3 (mkF m 25 #[.val (.ref b10)] []) _
  refine Go.iconst X3 hx (hb hby d1_25) ?_
  show Go p e below T3 (mkF m 26 #[.val (.ref b10)] [(.int (0 : Int32))]) _
  refine Go.ret_n X3 hx hret hlk (by simp) (hb hby d1_26) (by decide) (by decide) ?_
  rw [e3]
  exact ⟨rfl, N0, rfl⟩
def Qnp11 (Z : State) (b0 b1 b2 b3 b4 b5 b6 b7 b8 b9 b10 b11 b12 b13 b14 b15 b16 bH : Addr) (h0 : Heap) (n0 : Nat) (v : Option Value) (h : Heap) (L : List Loc) : Prop := v = some (.int (0 : Int32)) ∧ Fr n0 L ∧ h = h0
set_option maxRecDepth 65536 in
set_option maxHeartbeats 40000000 in
theorem rmnp11 (l : Launch) (Z : State) (a0 : Array Value) (hw : ∀ d ∈ tables_1, d.before a0 Z = true) (b0 b1 b2 b3 b4 b5 b6 b7 b8 b9 b10 b11 b12 b13 b14 b15 b16 bH : Addr) (h0 : Heap) (n0 : Nat) (Z0 : n0 ≤ h0.size) (O0 : Old Z n0 h0) (ty : Ty Z b0 b1 b2 b3 b4 b5 b6 b7 b8 b9 b10 b11 b12 b13 b14 b15 b16 bH) :
    Met l (⟨"com/example/fylgja/fylgja/Access", "namesPort", "()Z"⟩ : MethodName) prog_1_method_7_code 1 (some .boolean) [] ({ frames := 0, cells := 0, slots := 0, locals := 0 } : Room) Z #[(.ref b11)] h0 (Qnp11 Z b0 b1 b2 b3 b4 b5 b6 b7 b8 b9 b10 b11 b12 b13 b14 b15 b16 bH h0 n0) := by
  refine Met.of (Ls := #[.val (.ref b11)]) (by first | exact plainFor_of_name (by first | (simp [plainName, overriddenIn]; done) | decide +kernel) | decide +kernel) (fun m => by first | (simp [entryFrame, mkF, argsToLocals, Value.category]; done) | rfl) ?_
  intro p e s m below meth c T0 hx hby hml hown hnm hret hlk hZ X0 e0
  have N0 := Fr.nil n0
  show Go p e below T0 (mkF m 0 #[.val (.ref b11)] []) _
  obtain ⟨S0, S1, S2, S3, S4, S5, S6, S7, S8, S9, S10, S11, S12, S13, S14, S15, S16, Ea0, Ea1, Ea2, Ea3, Ea4, Ea5, Ea6, Ea7, Ea8, Ea9, Ea10, Ea11, Ea12, Ea13, Ea14, Ea15, Ea16, ne0_7, ne0_8, ne0_9, ne1_7, ne1_8, ne1_9, ne2_7, ne2_8, ne2_9, ne3_7, ne3_8, ne3_9, ne4_7, ne4_8, ne4_9, ne5_7, ne5_8, ne5_9, ne6_7, ne6_8, ne6_9, ne7_8, ne7_9, ne8_7, ne8_9, ne9_7, ne9_8, ne10_7, ne10_8, ne10_9, ne11_7, ne11_8, ne11_9, ne12_7, ne12_8, ne12_9, ne13_7, ne13_8, ne13_9, ne14_7, ne14_8, ne14_9, ne15_7, ne15_8, ne15_9, ne16_7, ne16_8, ne16_9, K7, K8, K9, SH⟩ := id ty
  refine Go.aload_n X0 hx (hb hby d1_0) rfl rfl ?_
  show Go p e below T0 (mkF m 1 #[.val (.ref b11)] [(.ref b11)]) _
  refine Go.getS X0 hx hZ hown (hwi hw 44 rfl) e0 (Sta.ext O0.2 S7) (hb hby d1_1) ?_
  intro T1 X1 e1
  show Go p e below T1 (mkF m 4 #[.val (.ref b11)] [(.ref b7), (.ref b11)]) _
  refine Go.acmp X1 hx (hb hby d1_4) (pc' := 21) (by decide) rfl rfl (ac_eq _ _) (fun c4 => ?_) (fun c4 => ?_)
  · exact absurd c4 (rne ne11_7)
  show Go p e below T1 (mkF m 7 #[.val (.ref b11)] []) _
  refine Go.aload_n X1 hx (hb hby d1_7) rfl rfl ?_
  show Go p e below T1 (mkF m 8 #[.val (.ref b11)] [(.ref b11)]) _
  refine Go.getS X1 hx hZ hown (hwi hw 45 rfl) e1 (Sta.ext O0.2 S8) (hb hby d1_8) ?_
  intro T2 X2 e2
  show Go p e below T2 (mkF m 11 #[.val (.ref b11)] [(.ref b8), (.ref b11)]) _
  refine Go.acmp X2 hx (hb hby d1_11) (pc' := 21) (by decide) rfl rfl (ac_eq _ _) (fun c11 => ?_) (fun c11 => ?_)
  · exact absurd c11 (rne ne11_8)
  show Go p e below T2 (mkF m 14 #[.val (.ref b11)] []) _
  refine Go.aload_n X2 hx (hb hby d1_14) rfl rfl ?_
  show Go p e below T2 (mkF m 15 #[.val (.ref b11)] [(.ref b11)]) _
  refine Go.getS X2 hx hZ hown (hwi hw 46 rfl) e2 (Sta.ext O0.2 S9) (hb hby d1_15) ?_
  intro T3 X3 e3
  show Go p e below T3 (mkF m 18 #[.val (.ref b11)] [(.ref b9), (.ref b11)]) _
  refine Go.acmp X3 hx (hb hby d1_18) (pc' := 25) (by decide) rfl rfl (ac_ne _ _) (fun c18 => ?_) (fun c18 => ?_)
  rotate_left
  · exact absurd (rne ne11_9) c18
  show Go p e below T3 (mkF m 25 #[.val (.ref b11)] []) _
  refine Go.iconst X3 hx (hb hby d1_25) ?_
  show Go p e below T3 (mkF m 26 #[.val (.ref b11)] [(.int (0 : Int32))]) _
  refine Go.ret_n X3 hx hret hlk (by simp) (hb hby d1_26) (by decide) (by decide) ?_
  rw [e3]
  exact ⟨rfl, N0, rfl⟩
def Qnp12 (Z : State) (b0 b1 b2 b3 b4 b5 b6 b7 b8 b9 b10 b11 b12 b13 b14 b15 b16 bH : Addr) (h0 : Heap) (n0 : Nat) (v : Option Value) (h : Heap) (L : List Loc) : Prop := v = some (.int (0 : Int32)) ∧ Fr n0 L ∧ h = h0
set_option maxRecDepth 65536 in
set_option maxHeartbeats 40000000 in
theorem rmnp12 (l : Launch) (Z : State) (a0 : Array Value) (hw : ∀ d ∈ tables_1, d.before a0 Z = true) (b0 b1 b2 b3 b4 b5 b6 b7 b8 b9 b10 b11 b12 b13 b14 b15 b16 bH : Addr) (h0 : Heap) (n0 : Nat) (Z0 : n0 ≤ h0.size) (O0 : Old Z n0 h0) (ty : Ty Z b0 b1 b2 b3 b4 b5 b6 b7 b8 b9 b10 b11 b12 b13 b14 b15 b16 bH) :
    Met l (⟨"com/example/fylgja/fylgja/Access", "namesPort", "()Z"⟩ : MethodName) prog_1_method_7_code 1 (some .boolean) [] ({ frames := 0, cells := 0, slots := 0, locals := 0 } : Room) Z #[(.ref b12)] h0 (Qnp12 Z b0 b1 b2 b3 b4 b5 b6 b7 b8 b9 b10 b11 b12 b13 b14 b15 b16 bH h0 n0) := by
  refine Met.of (Ls := #[.val (.ref b12)]) (by first | exact plainFor_of_name (by first | (simp [plainName, overriddenIn]; done) | decide +kernel) | decide +kernel) (fun m => by first | (simp [entryFrame, mkF, argsToLocals, Value.category]; done) | rfl) ?_
  intro p e s m below meth c T0 hx hby hml hown hnm hret hlk hZ X0 e0
  have N0 := Fr.nil n0
  show Go p e below T0 (mkF m 0 #[.val (.ref b12)] []) _
  obtain ⟨S0, S1, S2, S3, S4, S5, S6, S7, S8, S9, S10, S11, S12, S13, S14, S15, S16, Ea0, Ea1, Ea2, Ea3, Ea4, Ea5, Ea6, Ea7, Ea8, Ea9, Ea10, Ea11, Ea12, Ea13, Ea14, Ea15, Ea16, ne0_7, ne0_8, ne0_9, ne1_7, ne1_8, ne1_9, ne2_7, ne2_8, ne2_9, ne3_7, ne3_8, ne3_9, ne4_7, ne4_8, ne4_9, ne5_7, ne5_8, ne5_9, ne6_7, ne6_8, ne6_9, ne7_8, ne7_9, ne8_7, ne8_9, ne9_7, ne9_8, ne10_7, ne10_8, ne10_9, ne11_7, ne11_8, ne11_9, ne12_7, ne12_8, ne12_9, ne13_7, ne13_8, ne13_9, ne14_7, ne14_8, ne14_9, ne15_7, ne15_8, ne15_9, ne16_7, ne16_8, ne16_9, K7, K8, K9, SH⟩ := id ty
  refine Go.aload_n X0 hx (hb hby d1_0) rfl rfl ?_
  show Go p e below T0 (mkF m 1 #[.val (.ref b12)] [(.ref b12)]) _
  refine Go.getS X0 hx hZ hown (hwi hw 44 rfl) e0 (Sta.ext O0.2 S7) (hb hby d1_1) ?_
  intro T1 X1 e1
  show Go p e below T1 (mkF m 4 #[.val (.ref b12)] [(.ref b7), (.ref b12)]) _
  refine Go.acmp X1 hx (hb hby d1_4) (pc' := 21) (by decide) rfl rfl (ac_eq _ _) (fun c4 => ?_) (fun c4 => ?_)
  · exact absurd c4 (rne ne12_7)
  show Go p e below T1 (mkF m 7 #[.val (.ref b12)] []) _
  refine Go.aload_n X1 hx (hb hby d1_7) rfl rfl ?_
  show Go p e below T1 (mkF m 8 #[.val (.ref b12)] [(.ref b12)]) _
  refine Go.getS X1 hx hZ hown (hwi hw 45 rfl) e1 (Sta.ext O0.2 S8) (hb hby d1_8) ?_
  intro T2 X2 e2
  show Go p e below T2 (mkF m 11 #[.val (.ref b12)] [(.ref b8), (.ref b12)]) _
  refine Go.acmp X2 hx (hb hby d1_11) (pc' := 21) (by decide) rfl rfl (ac_eq _ _) (fun c11 => ?_) (fun c11 => ?_)
  · exact absurd c11 (rne ne12_8)
  show Go p e below T2 (mkF m 14 #[.val (.ref b12)] []) _
  refine Go.aload_n X2 hx (hb hby d1_14) rfl rfl ?_
  show Go p e below T2 (mkF m 15 #[.val (.ref b12)] [(.ref b12)]) _
  refine Go.getS X2 hx hZ hown (hwi hw 46 rfl) e2 (Sta.ext O0.2 S9) (hb hby d1_15) ?_
  intro T3 X3 e3
  show Go p e below T3 (mkF m 18 #[.val (.ref b12)] [(.ref b9), (.ref b12)]) _
  refine Go.acmp X3 hx (hb hby d1_18) (pc' := 25) (by decide) rfl rfl (ac_ne _ _) (fun c18 => ?_) (fun c18 => ?_)
  rotate_left
  · exact absurd (rne ne12_9) c18
  show Go p e below T3 (mkF m 25 #[.val (.ref b12)] []) _
  refine Go.iconst X3 hx (hb hby d1_25) ?_
  show Go p e below T3 (mkF m 26 #[.val (.ref b12)] [(.int (0 : Int32))]) _
  refine Go.ret_n X3 hx hret hlk (by simp) (hb hby d1_26) (by decide) (by decide) ?_
  rw [e3]
  exact ⟨rfl, N0, rfl⟩
def Qnp13 (Z : State) (b0 b1 b2 b3 b4 b5 b6 b7 b8 b9 b10 b11 b12 b13 b14 b15 b16 bH : Addr) (h0 : Heap) (n0 : Nat) (v : Option Value) (h : Heap) (L : List Loc) : Prop := v = some (.int (0 : Int32)) ∧ Fr n0 L ∧ h = h0
set_option maxRecDepth 65536 in
set_option maxHeartbeats 40000000 in
theorem rmnp13 (l : Launch) (Z : State) (a0 : Array Value) (hw : ∀ d ∈ tables_1, d.before a0 Z = true) (b0 b1 b2 b3 b4 b5 b6 b7 b8 b9 b10 b11 b12 b13 b14 b15 b16 bH : Addr) (h0 : Heap) (n0 : Nat) (Z0 : n0 ≤ h0.size) (O0 : Old Z n0 h0) (ty : Ty Z b0 b1 b2 b3 b4 b5 b6 b7 b8 b9 b10 b11 b12 b13 b14 b15 b16 bH) :
    Met l (⟨"com/example/fylgja/fylgja/Access", "namesPort", "()Z"⟩ : MethodName) prog_1_method_7_code 1 (some .boolean) [] ({ frames := 0, cells := 0, slots := 0, locals := 0 } : Room) Z #[(.ref b13)] h0 (Qnp13 Z b0 b1 b2 b3 b4 b5 b6 b7 b8 b9 b10 b11 b12 b13 b14 b15 b16 bH h0 n0) := by
  refine Met.of (Ls := #[.val (.ref b13)]) (by first | exact plainFor_of_name (by first | (simp [plainName, overriddenIn]; done) | decide +kernel) | decide +kernel) (fun m => by first | (simp [entryFrame, mkF, argsToLocals, Value.category]; done) | rfl) ?_
  intro p e s m below meth c T0 hx hby hml hown hnm hret hlk hZ X0 e0
  have N0 := Fr.nil n0
  show Go p e below T0 (mkF m 0 #[.val (.ref b13)] []) _
  obtain ⟨S0, S1, S2, S3, S4, S5, S6, S7, S8, S9, S10, S11, S12, S13, S14, S15, S16, Ea0, Ea1, Ea2, Ea3, Ea4, Ea5, Ea6, Ea7, Ea8, Ea9, Ea10, Ea11, Ea12, Ea13, Ea14, Ea15, Ea16, ne0_7, ne0_8, ne0_9, ne1_7, ne1_8, ne1_9, ne2_7, ne2_8, ne2_9, ne3_7, ne3_8, ne3_9, ne4_7, ne4_8, ne4_9, ne5_7, ne5_8, ne5_9, ne6_7, ne6_8, ne6_9, ne7_8, ne7_9, ne8_7, ne8_9, ne9_7, ne9_8, ne10_7, ne10_8, ne10_9, ne11_7, ne11_8, ne11_9, ne12_7, ne12_8, ne12_9, ne13_7, ne13_8, ne13_9, ne14_7, ne14_8, ne14_9, ne15_7, ne15_8, ne15_9, ne16_7, ne16_8, ne16_9, K7, K8, K9, SH⟩ := id ty
  refine Go.aload_n X0 hx (hb hby d1_0) rfl rfl ?_
  show Go p e below T0 (mkF m 1 #[.val (.ref b13)] [(.ref b13)]) _
  refine Go.getS X0 hx hZ hown (hwi hw 44 rfl) e0 (Sta.ext O0.2 S7) (hb hby d1_1) ?_
  intro T1 X1 e1
  show Go p e below T1 (mkF m 4 #[.val (.ref b13)] [(.ref b7), (.ref b13)]) _
  refine Go.acmp X1 hx (hb hby d1_4) (pc' := 21) (by decide) rfl rfl (ac_eq _ _) (fun c4 => ?_) (fun c4 => ?_)
  · exact absurd c4 (rne ne13_7)
  show Go p e below T1 (mkF m 7 #[.val (.ref b13)] []) _
  refine Go.aload_n X1 hx (hb hby d1_7) rfl rfl ?_
  show Go p e below T1 (mkF m 8 #[.val (.ref b13)] [(.ref b13)]) _
  refine Go.getS X1 hx hZ hown (hwi hw 45 rfl) e1 (Sta.ext O0.2 S8) (hb hby d1_8) ?_
  intro T2 X2 e2
  show Go p e below T2 (mkF m 11 #[.val (.ref b13)] [(.ref b8), (.ref b13)]) _
  refine Go.acmp X2 hx (hb hby d1_11) (pc' := 21) (by decide) rfl rfl (ac_eq _ _) (fun c11 => ?_) (fun c11 => ?_)
  · exact absurd c11 (rne ne13_8)
  show Go p e below T2 (mkF m 14 #[.val (.ref b13)] []) _
  refine Go.aload_n X2 hx (hb hby d1_14) rfl rfl ?_
  show Go p e below T2 (mkF m 15 #[.val (.ref b13)] [(.ref b13)]) _
  refine Go.getS X2 hx hZ hown (hwi hw 46 rfl) e2 (Sta.ext O0.2 S9) (hb hby d1_15) ?_
  intro T3 X3 e3
  show Go p e below T3 (mkF m 18 #[.val (.ref b13)] [(.ref b9), (.ref b13)]) _
  refine Go.acmp X3 hx (hb hby d1_18) (pc' := 25) (by decide) rfl rfl (ac_ne _ _) (fun c18 => ?_) (fun c18 => ?_)
  rotate_left
  · exact absurd (rne ne13_9) c18
  show Go p e below T3 (mkF m 25 #[.val (.ref b13)] []) _
  refine Go.iconst X3 hx (hb hby d1_25) ?_
  show Go p e below T3 (mkF m 26 #[.val (.ref b13)] [(.int (0 : Int32))]) _
  refine Go.ret_n X3 hx hret hlk (by simp) (hb hby d1_26) (by decide) (by decide) ?_
  rw [e3]
  exact ⟨rfl, N0, rfl⟩
def Qnp14 (Z : State) (b0 b1 b2 b3 b4 b5 b6 b7 b8 b9 b10 b11 b12 b13 b14 b15 b16 bH : Addr) (h0 : Heap) (n0 : Nat) (v : Option Value) (h : Heap) (L : List Loc) : Prop := v = some (.int (0 : Int32)) ∧ Fr n0 L ∧ h = h0
set_option maxRecDepth 65536 in
set_option maxHeartbeats 40000000 in
theorem rmnp14 (l : Launch) (Z : State) (a0 : Array Value) (hw : ∀ d ∈ tables_1, d.before a0 Z = true) (b0 b1 b2 b3 b4 b5 b6 b7 b8 b9 b10 b11 b12 b13 b14 b15 b16 bH : Addr) (h0 : Heap) (n0 : Nat) (Z0 : n0 ≤ h0.size) (O0 : Old Z n0 h0) (ty : Ty Z b0 b1 b2 b3 b4 b5 b6 b7 b8 b9 b10 b11 b12 b13 b14 b15 b16 bH) :
    Met l (⟨"com/example/fylgja/fylgja/Access", "namesPort", "()Z"⟩ : MethodName) prog_1_method_7_code 1 (some .boolean) [] ({ frames := 0, cells := 0, slots := 0, locals := 0 } : Room) Z #[(.ref b14)] h0 (Qnp14 Z b0 b1 b2 b3 b4 b5 b6 b7 b8 b9 b10 b11 b12 b13 b14 b15 b16 bH h0 n0) := by
  refine Met.of (Ls := #[.val (.ref b14)]) (by first | exact plainFor_of_name (by first | (simp [plainName, overriddenIn]; done) | decide +kernel) | decide +kernel) (fun m => by first | (simp [entryFrame, mkF, argsToLocals, Value.category]; done) | rfl) ?_
  intro p e s m below meth c T0 hx hby hml hown hnm hret hlk hZ X0 e0
  have N0 := Fr.nil n0
  show Go p e below T0 (mkF m 0 #[.val (.ref b14)] []) _
  obtain ⟨S0, S1, S2, S3, S4, S5, S6, S7, S8, S9, S10, S11, S12, S13, S14, S15, S16, Ea0, Ea1, Ea2, Ea3, Ea4, Ea5, Ea6, Ea7, Ea8, Ea9, Ea10, Ea11, Ea12, Ea13, Ea14, Ea15, Ea16, ne0_7, ne0_8, ne0_9, ne1_7, ne1_8, ne1_9, ne2_7, ne2_8, ne2_9, ne3_7, ne3_8, ne3_9, ne4_7, ne4_8, ne4_9, ne5_7, ne5_8, ne5_9, ne6_7, ne6_8, ne6_9, ne7_8, ne7_9, ne8_7, ne8_9, ne9_7, ne9_8, ne10_7, ne10_8, ne10_9, ne11_7, ne11_8, ne11_9, ne12_7, ne12_8, ne12_9, ne13_7, ne13_8, ne13_9, ne14_7, ne14_8, ne14_9, ne15_7, ne15_8, ne15_9, ne16_7, ne16_8, ne16_9, K7, K8, K9, SH⟩ := id ty
  refine Go.aload_n X0 hx (hb hby d1_0) rfl rfl ?_
  show Go p e below T0 (mkF m 1 #[.val (.ref b14)] [(.ref b14)]) _
  refine Go.getS X0 hx hZ hown (hwi hw 44 rfl) e0 (Sta.ext O0.2 S7) (hb hby d1_1) ?_
  intro T1 X1 e1
  show Go p e below T1 (mkF m 4 #[.val (.ref b14)] [(.ref b7), (.ref b14)]) _
  refine Go.acmp X1 hx (hb hby d1_4) (pc' := 21) (by decide) rfl rfl (ac_eq _ _) (fun c4 => ?_) (fun c4 => ?_)
  · exact absurd c4 (rne ne14_7)
  show Go p e below T1 (mkF m 7 #[.val (.ref b14)] []) _
  refine Go.aload_n X1 hx (hb hby d1_7) rfl rfl ?_
  show Go p e below T1 (mkF m 8 #[.val (.ref b14)] [(.ref b14)]) _
  refine Go.getS X1 hx hZ hown (hwi hw 45 rfl) e1 (Sta.ext O0.2 S8) (hb hby d1_8) ?_
  intro T2 X2 e2
  show Go p e below T2 (mkF m 11 #[.val (.ref b14)] [(.ref b8), (.ref b14)]) _
  refine Go.acmp X2 hx (hb hby d1_11) (pc' := 21) (by decide) rfl rfl (ac_eq _ _) (fun c11 => ?_) (fun c11 => ?_)
  · exact absurd c11 (rne ne14_8)
  show Go p e below T2 (mkF m 14 #[.val (.ref b14)] []) _
  refine Go.aload_n X2 hx (hb hby d1_14) rfl rfl ?_
  show Go p e below T2 (mkF m 15 #[.val (.ref b14)] [(.ref b14)]) _
  refine Go.getS X2 hx hZ hown (hwi hw 46 rfl) e2 (Sta.ext O0.2 S9) (hb hby d1_15) ?_
  intro T3 X3 e3
  show Go p e below T3 (mkF m 18 #[.val (.ref b14)] [(.ref b9), (.ref b14)]) _
  refine Go.acmp X3 hx (hb hby d1_18) (pc' := 25) (by decide) rfl rfl (ac_ne _ _) (fun c18 => ?_) (fun c18 => ?_)
  rotate_left
  · exact absurd (rne ne14_9) c18
  show Go p e below T3 (mkF m 25 #[.val (.ref b14)] []) _
  refine Go.iconst X3 hx (hb hby d1_25) ?_
  show Go p e below T3 (mkF m 26 #[.val (.ref b14)] [(.int (0 : Int32))]) _
  refine Go.ret_n X3 hx hret hlk (by simp) (hb hby d1_26) (by decide) (by decide) ?_
  rw [e3]
  exact ⟨rfl, N0, rfl⟩
def Qnp15 (Z : State) (b0 b1 b2 b3 b4 b5 b6 b7 b8 b9 b10 b11 b12 b13 b14 b15 b16 bH : Addr) (h0 : Heap) (n0 : Nat) (v : Option Value) (h : Heap) (L : List Loc) : Prop := v = some (.int (0 : Int32)) ∧ Fr n0 L ∧ h = h0
set_option maxRecDepth 65536 in
set_option maxHeartbeats 40000000 in
theorem rmnp15 (l : Launch) (Z : State) (a0 : Array Value) (hw : ∀ d ∈ tables_1, d.before a0 Z = true) (b0 b1 b2 b3 b4 b5 b6 b7 b8 b9 b10 b11 b12 b13 b14 b15 b16 bH : Addr) (h0 : Heap) (n0 : Nat) (Z0 : n0 ≤ h0.size) (O0 : Old Z n0 h0) (ty : Ty Z b0 b1 b2 b3 b4 b5 b6 b7 b8 b9 b10 b11 b12 b13 b14 b15 b16 bH) :
    Met l (⟨"com/example/fylgja/fylgja/Access", "namesPort", "()Z"⟩ : MethodName) prog_1_method_7_code 1 (some .boolean) [] ({ frames := 0, cells := 0, slots := 0, locals := 0 } : Room) Z #[(.ref b15)] h0 (Qnp15 Z b0 b1 b2 b3 b4 b5 b6 b7 b8 b9 b10 b11 b12 b13 b14 b15 b16 bH h0 n0) := by
  refine Met.of (Ls := #[.val (.ref b15)]) (by first | exact plainFor_of_name (by first | (simp [plainName, overriddenIn]; done) | decide +kernel) | decide +kernel) (fun m => by first | (simp [entryFrame, mkF, argsToLocals, Value.category]; done) | rfl) ?_
  intro p e s m below meth c T0 hx hby hml hown hnm hret hlk hZ X0 e0
  have N0 := Fr.nil n0
  show Go p e below T0 (mkF m 0 #[.val (.ref b15)] []) _
  obtain ⟨S0, S1, S2, S3, S4, S5, S6, S7, S8, S9, S10, S11, S12, S13, S14, S15, S16, Ea0, Ea1, Ea2, Ea3, Ea4, Ea5, Ea6, Ea7, Ea8, Ea9, Ea10, Ea11, Ea12, Ea13, Ea14, Ea15, Ea16, ne0_7, ne0_8, ne0_9, ne1_7, ne1_8, ne1_9, ne2_7, ne2_8, ne2_9, ne3_7, ne3_8, ne3_9, ne4_7, ne4_8, ne4_9, ne5_7, ne5_8, ne5_9, ne6_7, ne6_8, ne6_9, ne7_8, ne7_9, ne8_7, ne8_9, ne9_7, ne9_8, ne10_7, ne10_8, ne10_9, ne11_7, ne11_8, ne11_9, ne12_7, ne12_8, ne12_9, ne13_7, ne13_8, ne13_9, ne14_7, ne14_8, ne14_9, ne15_7, ne15_8, ne15_9, ne16_7, ne16_8, ne16_9, K7, K8, K9, SH⟩ := id ty
  refine Go.aload_n X0 hx (hb hby d1_0) rfl rfl ?_
  show Go p e below T0 (mkF m 1 #[.val (.ref b15)] [(.ref b15)]) _
  refine Go.getS X0 hx hZ hown (hwi hw 44 rfl) e0 (Sta.ext O0.2 S7) (hb hby d1_1) ?_
  intro T1 X1 e1
  show Go p e below T1 (mkF m 4 #[.val (.ref b15)] [(.ref b7), (.ref b15)]) _
  refine Go.acmp X1 hx (hb hby d1_4) (pc' := 21) (by decide) rfl rfl (ac_eq _ _) (fun c4 => ?_) (fun c4 => ?_)
  · exact absurd c4 (rne ne15_7)
  show Go p e below T1 (mkF m 7 #[.val (.ref b15)] []) _
  refine Go.aload_n X1 hx (hb hby d1_7) rfl rfl ?_
  show Go p e below T1 (mkF m 8 #[.val (.ref b15)] [(.ref b15)]) _
  refine Go.getS X1 hx hZ hown (hwi hw 45 rfl) e1 (Sta.ext O0.2 S8) (hb hby d1_8) ?_
  intro T2 X2 e2
  show Go p e below T2 (mkF m 11 #[.val (.ref b15)] [(.ref b8), (.ref b15)]) _
  refine Go.acmp X2 hx (hb hby d1_11) (pc' := 21) (by decide) rfl rfl (ac_eq _ _) (fun c11 => ?_) (fun c11 => ?_)
  · exact absurd c11 (rne ne15_8)
  show Go p e below T2 (mkF m 14 #[.val (.ref b15)] []) _
  refine Go.aload_n X2 hx (hb hby d1_14) rfl rfl ?_
  show Go p e below T2 (mkF m 15 #[.val (.ref b15)] [(.ref b15)]) _
  refine Go.getS X2 hx hZ hown (hwi hw 46 rfl) e2 (Sta.ext O0.2 S9) (hb hby d1_15) ?_
  intro T3 X3 e3
  show Go p e below T3 (mkF m 18 #[.val (.ref b15)] [(.ref b9), (.ref b15)]) _
  refine Go.acmp X3 hx (hb hby d1_18) (pc' := 25) (by decide) rfl rfl (ac_ne _ _) (fun c18 => ?_) (fun c18 => ?_)
  rotate_left
  · exact absurd (rne ne15_9) c18
  show Go p e below T3 (mkF m 25 #[.val (.ref b15)] []) _
  refine Go.iconst X3 hx (hb hby d1_25) ?_
  show Go p e below T3 (mkF m 26 #[.val (.ref b15)] [(.int (0 : Int32))]) _
  refine Go.ret_n X3 hx hret hlk (by simp) (hb hby d1_26) (by decide) (by decide) ?_
  rw [e3]
  exact ⟨rfl, N0, rfl⟩
def Qnp16 (Z : State) (b0 b1 b2 b3 b4 b5 b6 b7 b8 b9 b10 b11 b12 b13 b14 b15 b16 bH : Addr) (h0 : Heap) (n0 : Nat) (v : Option Value) (h : Heap) (L : List Loc) : Prop := v = some (.int (0 : Int32)) ∧ Fr n0 L ∧ h = h0
set_option maxRecDepth 65536 in
set_option maxHeartbeats 40000000 in
theorem rmnp16 (l : Launch) (Z : State) (a0 : Array Value) (hw : ∀ d ∈ tables_1, d.before a0 Z = true) (b0 b1 b2 b3 b4 b5 b6 b7 b8 b9 b10 b11 b12 b13 b14 b15 b16 bH : Addr) (h0 : Heap) (n0 : Nat) (Z0 : n0 ≤ h0.size) (O0 : Old Z n0 h0) (ty : Ty Z b0 b1 b2 b3 b4 b5 b6 b7 b8 b9 b10 b11 b12 b13 b14 b15 b16 bH) :
    Met l (⟨"com/example/fylgja/fylgja/Access", "namesPort", "()Z"⟩ : MethodName) prog_1_method_7_code 1 (some .boolean) [] ({ frames := 0, cells := 0, slots := 0, locals := 0 } : Room) Z #[(.ref b16)] h0 (Qnp16 Z b0 b1 b2 b3 b4 b5 b6 b7 b8 b9 b10 b11 b12 b13 b14 b15 b16 bH h0 n0) := by
  refine Met.of (Ls := #[.val (.ref b16)]) (by first | exact plainFor_of_name (by first | (simp [plainName, overriddenIn]; done) | decide +kernel) | decide +kernel) (fun m => by first | (simp [entryFrame, mkF, argsToLocals, Value.category]; done) | rfl) ?_
  intro p e s m below meth c T0 hx hby hml hown hnm hret hlk hZ X0 e0
  have N0 := Fr.nil n0
  show Go p e below T0 (mkF m 0 #[.val (.ref b16)] []) _
  obtain ⟨S0, S1, S2, S3, S4, S5, S6, S7, S8, S9, S10, S11, S12, S13, S14, S15, S16, Ea0, Ea1, Ea2, Ea3, Ea4, Ea5, Ea6, Ea7, Ea8, Ea9, Ea10, Ea11, Ea12, Ea13, Ea14, Ea15, Ea16, ne0_7, ne0_8, ne0_9, ne1_7, ne1_8, ne1_9, ne2_7, ne2_8, ne2_9, ne3_7, ne3_8, ne3_9, ne4_7, ne4_8, ne4_9, ne5_7, ne5_8, ne5_9, ne6_7, ne6_8, ne6_9, ne7_8, ne7_9, ne8_7, ne8_9, ne9_7, ne9_8, ne10_7, ne10_8, ne10_9, ne11_7, ne11_8, ne11_9, ne12_7, ne12_8, ne12_9, ne13_7, ne13_8, ne13_9, ne14_7, ne14_8, ne14_9, ne15_7, ne15_8, ne15_9, ne16_7, ne16_8, ne16_9, K7, K8, K9, SH⟩ := id ty
  refine Go.aload_n X0 hx (hb hby d1_0) rfl rfl ?_
  show Go p e below T0 (mkF m 1 #[.val (.ref b16)] [(.ref b16)]) _
  refine Go.getS X0 hx hZ hown (hwi hw 44 rfl) e0 (Sta.ext O0.2 S7) (hb hby d1_1) ?_
  intro T1 X1 e1
  show Go p e below T1 (mkF m 4 #[.val (.ref b16)] [(.ref b7), (.ref b16)]) _
  refine Go.acmp X1 hx (hb hby d1_4) (pc' := 21) (by decide) rfl rfl (ac_eq _ _) (fun c4 => ?_) (fun c4 => ?_)
  · exact absurd c4 (rne ne16_7)
  show Go p e below T1 (mkF m 7 #[.val (.ref b16)] []) _
  refine Go.aload_n X1 hx (hb hby d1_7) rfl rfl ?_
  show Go p e below T1 (mkF m 8 #[.val (.ref b16)] [(.ref b16)]) _
  refine Go.getS X1 hx hZ hown (hwi hw 45 rfl) e1 (Sta.ext O0.2 S8) (hb hby d1_8) ?_
  intro T2 X2 e2
  show Go p e below T2 (mkF m 11 #[.val (.ref b16)] [(.ref b8), (.ref b16)]) _
  refine Go.acmp X2 hx (hb hby d1_11) (pc' := 21) (by decide) rfl rfl (ac_eq _ _) (fun c11 => ?_) (fun c11 => ?_)
  · exact absurd c11 (rne ne16_8)
  show Go p e below T2 (mkF m 14 #[.val (.ref b16)] []) _
  refine Go.aload_n X2 hx (hb hby d1_14) rfl rfl ?_
  show Go p e below T2 (mkF m 15 #[.val (.ref b16)] [(.ref b16)]) _
  refine Go.getS X2 hx hZ hown (hwi hw 46 rfl) e2 (Sta.ext O0.2 S9) (hb hby d1_15) ?_
  intro T3 X3 e3
  show Go p e below T3 (mkF m 18 #[.val (.ref b16)] [(.ref b9), (.ref b16)]) _
  refine Go.acmp X3 hx (hb hby d1_18) (pc' := 25) (by decide) rfl rfl (ac_ne _ _) (fun c18 => ?_) (fun c18 => ?_)
  rotate_left
  · exact absurd (rne ne16_9) c18
  show Go p e below T3 (mkF m 25 #[.val (.ref b16)] []) _
  refine Go.iconst X3 hx (hb hby d1_25) ?_
  show Go p e below T3 (mkF m 26 #[.val (.ref b16)] [(.int (0 : Int32))]) _
  refine Go.ret_n X3 hx hret hlk (by simp) (hb hby d1_26) (by decide) (by decide) ?_
  rw [e3]
  exact ⟨rfl, N0, rfl⟩
def Qkd7 (Z : State) (b0 b1 b2 b3 b4 b5 b6 b7 b8 b9 b10 b11 b12 b13 b14 b15 b16 bH : Addr) (h0 : Heap) (n0 : Nat) (v : Option Value) (h : Heap) (L : List Loc) : Prop := v = some (.ref bH) ∧ Fr n0 L ∧ h = h0
set_option maxRecDepth 65536 in
set_option maxHeartbeats 40000000 in
theorem rmkd7 (l : Launch) (Z : State) (a0 : Array Value) (hw : ∀ d ∈ tables_1, d.before a0 Z = true) (b0 b1 b2 b3 b4 b5 b6 b7 b8 b9 b10 b11 b12 b13 b14 b15 b16 bH : Addr) (h0 : Heap) (n0 : Nat) (Z0 : n0 ≤ h0.size) (O0 : Old Z n0 h0) (ty : Ty Z b0 b1 b2 b3 b4 b5 b6 b7 b8 b9 b10 b11 b12 b13 b14 b15 b16 bH) :
    Met l (⟨"com/example/fylgja/fylgja/Access", "kind", "()Lcom/example/fylgja/fylgja/ResourceKind;"⟩ : MethodName) prog_1_method_6_code 1 (some (.object "com/example/fylgja/fylgja/ResourceKind")) [] ({ frames := 0, cells := 0, slots := 0, locals := 0 } : Room) Z #[(.ref b7)] h0 (Qkd7 Z b0 b1 b2 b3 b4 b5 b6 b7 b8 b9 b10 b11 b12 b13 b14 b15 b16 bH h0 n0) := by
  refine Met.of (Ls := #[.val (.ref b7)]) (by first | exact plainFor_of_name (by first | (simp [plainName, overriddenIn]; done) | decide +kernel) | decide +kernel) (fun m => by first | (simp [entryFrame, mkF, argsToLocals, Value.category]; done) | rfl) ?_
  intro p e s m below meth c T0 hx hby hml hown hnm hret hlk hZ X0 e0
  have N0 := Fr.nil n0
  show Go p e below T0 (mkF m 0 #[.val (.ref b7)] []) _
  obtain ⟨S0, S1, S2, S3, S4, S5, S6, S7, S8, S9, S10, S11, S12, S13, S14, S15, S16, Ea0, Ea1, Ea2, Ea3, Ea4, Ea5, Ea6, Ea7, Ea8, Ea9, Ea10, Ea11, Ea12, Ea13, Ea14, Ea15, Ea16, ne0_7, ne0_8, ne0_9, ne1_7, ne1_8, ne1_9, ne2_7, ne2_8, ne2_9, ne3_7, ne3_8, ne3_9, ne4_7, ne4_8, ne4_9, ne5_7, ne5_8, ne5_9, ne6_7, ne6_8, ne6_9, ne7_8, ne7_9, ne8_7, ne8_9, ne9_7, ne9_8, ne10_7, ne10_8, ne10_9, ne11_7, ne11_8, ne11_9, ne12_7, ne12_8, ne12_9, ne13_7, ne13_8, ne13_9, ne14_7, ne14_8, ne14_9, ne15_7, ne15_8, ne15_9, ne16_7, ne16_8, ne16_9, K7, K8, K9, SH⟩ := id ty
  refine Go.aload_n X0 hx (hb hby d2_0) rfl rfl ?_
  show Go p e below T0 (mkF m 1 #[.val (.ref b7)] [(.ref b7)]) _
  refine Go.getF X0 hx hZ hown (hwi hw 52 rfl) e0 (Fld.ext O0.2 K7) (hb hby d2_1) ?_
  intro T1 X1 e1
  show Go p e below T1 (mkF m 4 #[.val (.ref b7)] [(.ref bH)]) _
  refine Go.ret_a X1 hx hret hlk rfl rfl rfl (hb hby d2_4) (by decide) (by decide) ?_
  rw [e1]
  exact ⟨rfl, N0, rfl⟩
def Qkd8 (Z : State) (b0 b1 b2 b3 b4 b5 b6 b7 b8 b9 b10 b11 b12 b13 b14 b15 b16 bH : Addr) (h0 : Heap) (n0 : Nat) (v : Option Value) (h : Heap) (L : List Loc) : Prop := v = some (.ref bH) ∧ Fr n0 L ∧ h = h0
set_option maxRecDepth 65536 in
set_option maxHeartbeats 40000000 in
theorem rmkd8 (l : Launch) (Z : State) (a0 : Array Value) (hw : ∀ d ∈ tables_1, d.before a0 Z = true) (b0 b1 b2 b3 b4 b5 b6 b7 b8 b9 b10 b11 b12 b13 b14 b15 b16 bH : Addr) (h0 : Heap) (n0 : Nat) (Z0 : n0 ≤ h0.size) (O0 : Old Z n0 h0) (ty : Ty Z b0 b1 b2 b3 b4 b5 b6 b7 b8 b9 b10 b11 b12 b13 b14 b15 b16 bH) :
    Met l (⟨"com/example/fylgja/fylgja/Access", "kind", "()Lcom/example/fylgja/fylgja/ResourceKind;"⟩ : MethodName) prog_1_method_6_code 1 (some (.object "com/example/fylgja/fylgja/ResourceKind")) [] ({ frames := 0, cells := 0, slots := 0, locals := 0 } : Room) Z #[(.ref b8)] h0 (Qkd8 Z b0 b1 b2 b3 b4 b5 b6 b7 b8 b9 b10 b11 b12 b13 b14 b15 b16 bH h0 n0) := by
  refine Met.of (Ls := #[.val (.ref b8)]) (by first | exact plainFor_of_name (by first | (simp [plainName, overriddenIn]; done) | decide +kernel) | decide +kernel) (fun m => by first | (simp [entryFrame, mkF, argsToLocals, Value.category]; done) | rfl) ?_
  intro p e s m below meth c T0 hx hby hml hown hnm hret hlk hZ X0 e0
  have N0 := Fr.nil n0
  show Go p e below T0 (mkF m 0 #[.val (.ref b8)] []) _
  obtain ⟨S0, S1, S2, S3, S4, S5, S6, S7, S8, S9, S10, S11, S12, S13, S14, S15, S16, Ea0, Ea1, Ea2, Ea3, Ea4, Ea5, Ea6, Ea7, Ea8, Ea9, Ea10, Ea11, Ea12, Ea13, Ea14, Ea15, Ea16, ne0_7, ne0_8, ne0_9, ne1_7, ne1_8, ne1_9, ne2_7, ne2_8, ne2_9, ne3_7, ne3_8, ne3_9, ne4_7, ne4_8, ne4_9, ne5_7, ne5_8, ne5_9, ne6_7, ne6_8, ne6_9, ne7_8, ne7_9, ne8_7, ne8_9, ne9_7, ne9_8, ne10_7, ne10_8, ne10_9, ne11_7, ne11_8, ne11_9, ne12_7, ne12_8, ne12_9, ne13_7, ne13_8, ne13_9, ne14_7, ne14_8, ne14_9, ne15_7, ne15_8, ne15_9, ne16_7, ne16_8, ne16_9, K7, K8, K9, SH⟩ := id ty
  refine Go.aload_n X0 hx (hb hby d2_0) rfl rfl ?_
  show Go p e below T0 (mkF m 1 #[.val (.ref b8)] [(.ref b8)]) _
  refine Go.getF X0 hx hZ hown (hwi hw 52 rfl) e0 (Fld.ext O0.2 K8) (hb hby d2_1) ?_
  intro T1 X1 e1
  show Go p e below T1 (mkF m 4 #[.val (.ref b8)] [(.ref bH)]) _
  refine Go.ret_a X1 hx hret hlk rfl rfl rfl (hb hby d2_4) (by decide) (by decide) ?_
  rw [e1]
  exact ⟨rfl, N0, rfl⟩
def Qkd9 (Z : State) (b0 b1 b2 b3 b4 b5 b6 b7 b8 b9 b10 b11 b12 b13 b14 b15 b16 bH : Addr) (h0 : Heap) (n0 : Nat) (v : Option Value) (h : Heap) (L : List Loc) : Prop := v = some (.ref bH) ∧ Fr n0 L ∧ h = h0
set_option maxRecDepth 65536 in
set_option maxHeartbeats 40000000 in
theorem rmkd9 (l : Launch) (Z : State) (a0 : Array Value) (hw : ∀ d ∈ tables_1, d.before a0 Z = true) (b0 b1 b2 b3 b4 b5 b6 b7 b8 b9 b10 b11 b12 b13 b14 b15 b16 bH : Addr) (h0 : Heap) (n0 : Nat) (Z0 : n0 ≤ h0.size) (O0 : Old Z n0 h0) (ty : Ty Z b0 b1 b2 b3 b4 b5 b6 b7 b8 b9 b10 b11 b12 b13 b14 b15 b16 bH) :
    Met l (⟨"com/example/fylgja/fylgja/Access", "kind", "()Lcom/example/fylgja/fylgja/ResourceKind;"⟩ : MethodName) prog_1_method_6_code 1 (some (.object "com/example/fylgja/fylgja/ResourceKind")) [] ({ frames := 0, cells := 0, slots := 0, locals := 0 } : Room) Z #[(.ref b9)] h0 (Qkd9 Z b0 b1 b2 b3 b4 b5 b6 b7 b8 b9 b10 b11 b12 b13 b14 b15 b16 bH h0 n0) := by
  refine Met.of (Ls := #[.val (.ref b9)]) (by first | exact plainFor_of_name (by first | (simp [plainName, overriddenIn]; done) | decide +kernel) | decide +kernel) (fun m => by first | (simp [entryFrame, mkF, argsToLocals, Value.category]; done) | rfl) ?_
  intro p e s m below meth c T0 hx hby hml hown hnm hret hlk hZ X0 e0
  have N0 := Fr.nil n0
  show Go p e below T0 (mkF m 0 #[.val (.ref b9)] []) _
  obtain ⟨S0, S1, S2, S3, S4, S5, S6, S7, S8, S9, S10, S11, S12, S13, S14, S15, S16, Ea0, Ea1, Ea2, Ea3, Ea4, Ea5, Ea6, Ea7, Ea8, Ea9, Ea10, Ea11, Ea12, Ea13, Ea14, Ea15, Ea16, ne0_7, ne0_8, ne0_9, ne1_7, ne1_8, ne1_9, ne2_7, ne2_8, ne2_9, ne3_7, ne3_8, ne3_9, ne4_7, ne4_8, ne4_9, ne5_7, ne5_8, ne5_9, ne6_7, ne6_8, ne6_9, ne7_8, ne7_9, ne8_7, ne8_9, ne9_7, ne9_8, ne10_7, ne10_8, ne10_9, ne11_7, ne11_8, ne11_9, ne12_7, ne12_8, ne12_9, ne13_7, ne13_8, ne13_9, ne14_7, ne14_8, ne14_9, ne15_7, ne15_8, ne15_9, ne16_7, ne16_8, ne16_9, K7, K8, K9, SH⟩ := id ty
  refine Go.aload_n X0 hx (hb hby d2_0) rfl rfl ?_
  show Go p e below T0 (mkF m 1 #[.val (.ref b9)] [(.ref b9)]) _
  refine Go.getF X0 hx hZ hown (hwi hw 52 rfl) e0 (Fld.ext O0.2 K9) (hb hby d2_1) ?_
  intro T1 X1 e1
  show Go p e below T1 (mkF m 4 #[.val (.ref b9)] [(.ref bH)]) _
  refine Go.ret_a X1 hx hret hlk rfl rfl rfl (hb hby d2_4) (by decide) (by decide) ?_
  rw [e1]
  exact ⟨rfl, N0, rfl⟩
theorem i17 (x : Int32) : (x &&& 2147483647) % 17 = 0 ∨ (x &&& 2147483647) % 17 = 1 ∨ (x &&& 2147483647) % 17 = 2 ∨ (x &&& 2147483647) % 17 = 3 ∨ (x &&& 2147483647) % 17 = 4 ∨ (x &&& 2147483647) % 17 = 5 ∨ (x &&& 2147483647) % 17 = 6 ∨ (x &&& 2147483647) % 17 = 7 ∨ (x &&& 2147483647) % 17 = 8 ∨ (x &&& 2147483647) % 17 = 9 ∨ (x &&& 2147483647) % 17 = 10 ∨ (x &&& 2147483647) % 17 = 11 ∨ (x &&& 2147483647) % 17 = 12 ∨ (x &&& 2147483647) % 17 = 13 ∨ (x &&& 2147483647) % 17 = 14 ∨ (x &&& 2147483647) % 17 = 15 ∨ (x &&& 2147483647) % 17 = 16 := by
  have a1 := c_mask x 2147483647 31 (by decide) (by decide)
  have a2 := (c_irem (x &&& 2147483647) 17 17 (by decide)).1 (by rw [a1]; exact Int.emod_nonneg _ (by decide))
  simp only [← Int32.toInt_inj, Int32.reduceToInt]
  omega
def Q0 (Z : State) (p1 : Int32) (b0 b1 b2 b3 b4 b5 b6 b7 b8 b9 b10 b11 b12 b13 b14 b15 b16 bH : Addr) (h0 : Heap) (n0 : Nat) (v : Option Value) (h : Heap) (L : List Loc) : Prop := v = some (.int 1) ∧ Fr n0 L
set_option maxRecDepth 65536 in
set_option maxHeartbeats 40000000 in
theorem rm0 (l : Launch) (Z : State) (a0 : Array Value) (hw : ∀ d ∈ tables_1, d.before a0 Z = true) (ws : List Jvm.Cond) (p1 : Int32) (b0 b1 b2 b3 b4 b5 b6 b7 b8 b9 b10 b11 b12 b13 b14 b15 b16 bH : Addr) (h0 : Heap) (n0 : Nat) (Z0 : n0 ≤ h0.size) (O0 : Old Z n0 h0) (ty : Ty Z b0 b1 b2 b3 b4 b5 b6 b7 b8 b9 b10 b11 b12 b13 b14 b15 b16 bH) :
    Met l x code maxLocals ret ws room_1 Z #[(.int p1)] h0 (Q0 Z p1 b0 b1 b2 b3 b4 b5 b6 b7 b8 b9 b10 b11 b12 b13 b14 b15 b16 bH h0 n0) := by
  refine Met.of (Ls := #[.val (.int p1), .unset, .unset, .unset, .unset, .unset]) (by first | exact plainFor_of_name (by first | (simp [plainName, overriddenIn, x]; done) | decide +kernel) | decide +kernel) (fun m => by first | (simp [entryFrame, mkF, argsToLocals, Value.category, maxLocals]; done) | rfl) ?_
  intro p e s m below meth c T0 hx hby hml hown hnm hret hlk hZ X0 e0
  have N0 := Fr.nil n0
  show Go p e below T0 (mkF m 0 #[.val (.int p1), .unset, .unset, .unset, .unset, .unset] []) _
  obtain ⟨S0, S1, S2, S3, S4, S5, S6, S7, S8, S9, S10, S11, S12, S13, S14, S15, S16, Ea0, Ea1, Ea2, Ea3, Ea4, Ea5, Ea6, Ea7, Ea8, Ea9, Ea10, Ea11, Ea12, Ea13, Ea14, Ea15, Ea16, ne0_7, ne0_8, ne0_9, ne1_7, ne1_8, ne1_9, ne2_7, ne2_8, ne2_9, ne3_7, ne3_8, ne3_9, ne4_7, ne4_8, ne4_9, ne5_7, ne5_8, ne5_9, ne6_7, ne6_8, ne6_9, ne7_8, ne7_9, ne8_7, ne8_9, ne9_7, ne9_8, ne10_7, ne10_8, ne10_9, ne11_7, ne11_8, ne11_9, ne12_7, ne12_8, ne12_9, ne13_7, ne13_8, ne13_9, ne14_7, ne14_8, ne14_9, ne15_7, ne15_8, ne15_9, ne16_7, ne16_8, ne16_9, K7, K8, K9, SH⟩ := id ty
  refine Go.bipush X0 hx (hb hby at_0) ?_
  show Go p e below T0 (mkF m 2 #[.val (.int p1), .unset, .unset, .unset, .unset, .unset] [(.int (17 : Int32))]) _
  refine Go.newR X0 hx hZ hown (hwi hw 0 rfl) (hwi hw 1 rfl) e0 (hb hby at_2) (n := 17) (cap := 17) rfl (by decide) (by decide) (by decide) (by decide) ?_
  intro T1 h1 a kk_a g_a X1 e1 E1 V_a O_a
  have ge_a : n0 ≤ a := g_a ▸ Z0
  have O_1 := O0.ext E1
  have Z1 := Nat.le_trans Z0 E1.1
  show Go p e below T1 (mkF m 5 #[.val (.int p1), .unset, .unset, .unset, .unset, .unset] [(.ref a)]) _
  refine Go.dup X1 hx (hb hby at_5) rfl ?_
  show Go p e below T1 (mkF m 6 #[.val (.int p1), .unset, .unset, .unset, .unset, .unset] [(.ref a), (.ref a)]) _
  refine Go.iconst X1 hx (hb hby at_6) ?_
  show Go p e below T1 (mkF m 7 #[.val (.int p1), .unset, .unset, .unset, .unset, .unset] [(.int (0 : Int32)), (.ref a), (.ref a)]) _
  refine Go.getS X1 hx hZ hown (hwi hw 2 rfl) e1 (Sta.ext O_1.2 S0) (hb hby at_7) ?_
  intro T2 X2 e2
  show Go p e below T2 (mkF m 10 #[.val (.int p1), .unset, .unset, .unset, .unset, .unset] [(.ref b0), (.int (0 : Int32)), (.ref a), (.ref a)]) _
  refine Go.aastore X2 hx hZ e2 V_a O_a (Ins.self (Exa.ext O_1.2 Ea0)) (i := 0) rfl (by decide) (hb hby at_10) ?_
  intro T3 h3 X3 e3 W3 V3
  have N3 := Fr.snoc X3 N0 ge_a
  have O_3 := O_1.wr W3 ge_a
  have a_3 := V3
  have Z3 : n0 ≤ h3.size := by rw [W3.size]; exact Z1
  show Go p e below T3 (mkF m 11 #[.val (.int p1), .unset, .unset, .unset, .unset, .unset] [(.ref a)]) _
  refine Go.dup X3 hx (hb hby at_11) rfl ?_
  show Go p e below T3 (mkF m 12 #[.val (.int p1), .unset, .unset, .unset, .unset, .unset] [(.ref a), (.ref a)]) _
  refine Go.iconst X3 hx (hb hby at_12) ?_
  show Go p e below T3 (mkF m 13 #[.val (.int p1), .unset, .unset, .unset, .unset, .unset] [(.int (1 : Int32)), (.ref a), (.ref a)]) _
  refine Go.getS X3 hx hZ hown (hwi hw 6 rfl) e3 (Sta.ext O_3.2 S1) (hb hby at_13) ?_
  intro T4 X4 e4
  show Go p e below T4 (mkF m 16 #[.val (.int p1), .unset, .unset, .unset, .unset, .unset] [(.ref b1), (.int (1 : Int32)), (.ref a), (.ref a)]) _
  refine Go.aastore X4 hx hZ e4 a_3 O_a (Ins.self (Exa.ext O_3.2 Ea1)) (i := 1) rfl (by decide) (hb hby at_16) ?_
  intro T5 h5 X5 e5 W5 V5
  have N5 := Fr.snoc X5 N3 ge_a
  have O_5 := O_3.wr W5 ge_a
  have a_5 := V5
  have Z5 : n0 ≤ h5.size := by rw [W5.size]; exact Z3
  show Go p e below T5 (mkF m 17 #[.val (.int p1), .unset, .unset, .unset, .unset, .unset] [(.ref a)]) _
  refine Go.dup X5 hx (hb hby at_17) rfl ?_
  show Go p e below T5 (mkF m 18 #[.val (.int p1), .unset, .unset, .unset, .unset, .unset] [(.ref a), (.ref a)]) _
  refine Go.iconst X5 hx (hb hby at_18) ?_
  show Go p e below T5 (mkF m 19 #[.val (.int p1), .unset, .unset, .unset, .unset, .unset] [(.int (2 : Int32)), (.ref a), (.ref a)]) _
  refine Go.getS X5 hx hZ hown (hwi hw 8 rfl) e5 (Sta.ext O_5.2 S2) (hb hby at_19) ?_
  intro T6 X6 e6
  show Go p e below T6 (mkF m 22 #[.val (.int p1), .unset, .unset, .unset, .unset, .unset] [(.ref b2), (.int (2 : Int32)), (.ref a), (.ref a)]) _
  refine Go.aastore X6 hx hZ e6 a_5 O_a (Ins.self (Exa.ext O_5.2 Ea2)) (i := 2) rfl (by decide) (hb hby at_22) ?_
  intro T7 h7 X7 e7 W7 V7
  have N7 := Fr.snoc X7 N5 ge_a
  have O_7 := O_5.wr W7 ge_a
  have a_7 := V7
  have Z7 : n0 ≤ h7.size := by rw [W7.size]; exact Z5
  show Go p e below T7 (mkF m 23 #[.val (.int p1), .unset, .unset, .unset, .unset, .unset] [(.ref a)]) _
  refine Go.dup X7 hx (hb hby at_23) rfl ?_
  show Go p e below T7 (mkF m 24 #[.val (.int p1), .unset, .unset, .unset, .unset, .unset] [(.ref a), (.ref a)]) _
  refine Go.iconst X7 hx (hb hby at_24) ?_
  show Go p e below T7 (mkF m 25 #[.val (.int p1), .unset, .unset, .unset, .unset, .unset] [(.int (3 : Int32)), (.ref a), (.ref a)]) _
  refine Go.getS X7 hx hZ hown (hwi hw 10 rfl) e7 (Sta.ext O_7.2 S3) (hb hby at_25) ?_
  intro T8 X8 e8
  show Go p e below T8 (mkF m 28 #[.val (.int p1), .unset, .unset, .unset, .unset, .unset] [(.ref b3), (.int (3 : Int32)), (.ref a), (.ref a)]) _
  refine Go.aastore X8 hx hZ e8 a_7 O_a (Ins.self (Exa.ext O_7.2 Ea3)) (i := 3) rfl (by decide) (hb hby at_28) ?_
  intro T9 h9 X9 e9 W9 V9
  have N9 := Fr.snoc X9 N7 ge_a
  have O_9 := O_7.wr W9 ge_a
  have a_9 := V9
  have Z9 : n0 ≤ h9.size := by rw [W9.size]; exact Z7
  show Go p e below T9 (mkF m 29 #[.val (.int p1), .unset, .unset, .unset, .unset, .unset] [(.ref a)]) _
  refine Go.dup X9 hx (hb hby at_29) rfl ?_
  show Go p e below T9 (mkF m 30 #[.val (.int p1), .unset, .unset, .unset, .unset, .unset] [(.ref a), (.ref a)]) _
  refine Go.iconst X9 hx (hb hby at_30) ?_
  show Go p e below T9 (mkF m 31 #[.val (.int p1), .unset, .unset, .unset, .unset, .unset] [(.int (4 : Int32)), (.ref a), (.ref a)]) _
  refine Go.getS X9 hx hZ hown (hwi hw 12 rfl) e9 (Sta.ext O_9.2 S4) (hb hby at_31) ?_
  intro T10 X10 e10
  show Go p e below T10 (mkF m 34 #[.val (.int p1), .unset, .unset, .unset, .unset, .unset] [(.ref b4), (.int (4 : Int32)), (.ref a), (.ref a)]) _
  refine Go.aastore X10 hx hZ e10 a_9 O_a (Ins.self (Exa.ext O_9.2 Ea4)) (i := 4) rfl (by decide) (hb hby at_34) ?_
  intro T11 h11 X11 e11 W11 V11
  have N11 := Fr.snoc X11 N9 ge_a
  have O_11 := O_9.wr W11 ge_a
  have a_11 := V11
  have Z11 : n0 ≤ h11.size := by rw [W11.size]; exact Z9
  show Go p e below T11 (mkF m 35 #[.val (.int p1), .unset, .unset, .unset, .unset, .unset] [(.ref a)]) _
  refine Go.dup X11 hx (hb hby at_35) rfl ?_
  show Go p e below T11 (mkF m 36 #[.val (.int p1), .unset, .unset, .unset, .unset, .unset] [(.ref a), (.ref a)]) _
  refine Go.iconst X11 hx (hb hby at_36) ?_
  show Go p e below T11 (mkF m 37 #[.val (.int p1), .unset, .unset, .unset, .unset, .unset] [(.int (5 : Int32)), (.ref a), (.ref a)]) _
  refine Go.getS X11 hx hZ hown (hwi hw 14 rfl) e11 (Sta.ext O_11.2 S5) (hb hby at_37) ?_
  intro T12 X12 e12
  show Go p e below T12 (mkF m 40 #[.val (.int p1), .unset, .unset, .unset, .unset, .unset] [(.ref b5), (.int (5 : Int32)), (.ref a), (.ref a)]) _
  refine Go.aastore X12 hx hZ e12 a_11 O_a (Ins.self (Exa.ext O_11.2 Ea5)) (i := 5) rfl (by decide) (hb hby at_40) ?_
  intro T13 h13 X13 e13 W13 V13
  have N13 := Fr.snoc X13 N11 ge_a
  have O_13 := O_11.wr W13 ge_a
  have a_13 := V13
  have Z13 : n0 ≤ h13.size := by rw [W13.size]; exact Z11
  show Go p e below T13 (mkF m 41 #[.val (.int p1), .unset, .unset, .unset, .unset, .unset] [(.ref a)]) _
  refine Go.dup X13 hx (hb hby at_41) rfl ?_
  show Go p e below T13 (mkF m 42 #[.val (.int p1), .unset, .unset, .unset, .unset, .unset] [(.ref a), (.ref a)]) _
  refine Go.bipush X13 hx (hb hby at_42) ?_
  show Go p e below T13 (mkF m 44 #[.val (.int p1), .unset, .unset, .unset, .unset, .unset] [(.int (6 : Int32)), (.ref a), (.ref a)]) _
  refine Go.getS X13 hx hZ hown (hwi hw 16 rfl) e13 (Sta.ext O_13.2 S6) (hb hby at_44) ?_
  intro T14 X14 e14
  show Go p e below T14 (mkF m 47 #[.val (.int p1), .unset, .unset, .unset, .unset, .unset] [(.ref b6), (.int (6 : Int32)), (.ref a), (.ref a)]) _
  refine Go.aastore X14 hx hZ e14 a_13 O_a (Ins.self (Exa.ext O_13.2 Ea6)) (i := 6) rfl (by decide) (hb hby at_47) ?_
  intro T15 h15 X15 e15 W15 V15
  have N15 := Fr.snoc X15 N13 ge_a
  have O_15 := O_13.wr W15 ge_a
  have a_15 := V15
  have Z15 : n0 ≤ h15.size := by rw [W15.size]; exact Z13
  show Go p e below T15 (mkF m 48 #[.val (.int p1), .unset, .unset, .unset, .unset, .unset] [(.ref a)]) _
  refine Go.dup X15 hx (hb hby at_48) rfl ?_
  show Go p e below T15 (mkF m 49 #[.val (.int p1), .unset, .unset, .unset, .unset, .unset] [(.ref a), (.ref a)]) _
  refine Go.bipush X15 hx (hb hby at_49) ?_
  show Go p e below T15 (mkF m 51 #[.val (.int p1), .unset, .unset, .unset, .unset, .unset] [(.int (7 : Int32)), (.ref a), (.ref a)]) _
  refine Go.getS X15 hx hZ hown (hwi hw 18 rfl) e15 (Sta.ext O_15.2 S7) (hb hby at_51) ?_
  intro T16 X16 e16
  show Go p e below T16 (mkF m 54 #[.val (.int p1), .unset, .unset, .unset, .unset, .unset] [(.ref b7), (.int (7 : Int32)), (.ref a), (.ref a)]) _
  refine Go.aastore X16 hx hZ e16 a_15 O_a (Ins.self (Exa.ext O_15.2 Ea7)) (i := 7) rfl (by decide) (hb hby at_54) ?_
  intro T17 h17 X17 e17 W17 V17
  have N17 := Fr.snoc X17 N15 ge_a
  have O_17 := O_15.wr W17 ge_a
  have a_17 := V17
  have Z17 : n0 ≤ h17.size := by rw [W17.size]; exact Z15
  show Go p e below T17 (mkF m 55 #[.val (.int p1), .unset, .unset, .unset, .unset, .unset] [(.ref a)]) _
  refine Go.dup X17 hx (hb hby at_55) rfl ?_
  show Go p e below T17 (mkF m 56 #[.val (.int p1), .unset, .unset, .unset, .unset, .unset] [(.ref a), (.ref a)]) _
  refine Go.bipush X17 hx (hb hby at_56) ?_
  show Go p e below T17 (mkF m 58 #[.val (.int p1), .unset, .unset, .unset, .unset, .unset] [(.int (8 : Int32)), (.ref a), (.ref a)]) _
  refine Go.getS X17 hx hZ hown (hwi hw 20 rfl) e17 (Sta.ext O_17.2 S8) (hb hby at_58) ?_
  intro T18 X18 e18
  show Go p e below T18 (mkF m 61 #[.val (.int p1), .unset, .unset, .unset, .unset, .unset] [(.ref b8), (.int (8 : Int32)), (.ref a), (.ref a)]) _
  refine Go.aastore X18 hx hZ e18 a_17 O_a (Ins.self (Exa.ext O_17.2 Ea8)) (i := 8) rfl (by decide) (hb hby at_61) ?_
  intro T19 h19 X19 e19 W19 V19
  have N19 := Fr.snoc X19 N17 ge_a
  have O_19 := O_17.wr W19 ge_a
  have a_19 := V19
  have Z19 : n0 ≤ h19.size := by rw [W19.size]; exact Z17
  show Go p e below T19 (mkF m 62 #[.val (.int p1), .unset, .unset, .unset, .unset, .unset] [(.ref a)]) _
  refine Go.dup X19 hx (hb hby at_62) rfl ?_
  show Go p e below T19 (mkF m 63 #[.val (.int p1), .unset, .unset, .unset, .unset, .unset] [(.ref a), (.ref a)]) _
  refine Go.bipush X19 hx (hb hby at_63) ?_
  show Go p e below T19 (mkF m 65 #[.val (.int p1), .unset, .unset, .unset, .unset, .unset] [(.int (9 : Int32)), (.ref a), (.ref a)]) _
  refine Go.getS X19 hx hZ hown (hwi hw 22 rfl) e19 (Sta.ext O_19.2 S9) (hb hby at_65) ?_
  intro T20 X20 e20
  show Go p e below T20 (mkF m 68 #[.val (.int p1), .unset, .unset, .unset, .unset, .unset] [(.ref b9), (.int (9 : Int32)), (.ref a), (.ref a)]) _
  refine Go.aastore X20 hx hZ e20 a_19 O_a (Ins.self (Exa.ext O_19.2 Ea9)) (i := 9) rfl (by decide) (hb hby at_68) ?_
  intro T21 h21 X21 e21 W21 V21
  have N21 := Fr.snoc X21 N19 ge_a
  have O_21 := O_19.wr W21 ge_a
  have a_21 := V21
  have Z21 : n0 ≤ h21.size := by rw [W21.size]; exact Z19
  show Go p e below T21 (mkF m 69 #[.val (.int p1), .unset, .unset, .unset, .unset, .unset] [(.ref a)]) _
  refine Go.dup X21 hx (hb hby at_69) rfl ?_
  show Go p e below T21 (mkF m 70 #[.val (.int p1), .unset, .unset, .unset, .unset, .unset] [(.ref a), (.ref a)]) _
  refine Go.bipush X21 hx (hb hby at_70) ?_
  show Go p e below T21 (mkF m 72 #[.val (.int p1), .unset, .unset, .unset, .unset, .unset] [(.int (10 : Int32)), (.ref a), (.ref a)]) _
  refine Go.getS X21 hx hZ hown (hwi hw 24 rfl) e21 (Sta.ext O_21.2 S10) (hb hby at_72) ?_
  intro T22 X22 e22
  show Go p e below T22 (mkF m 75 #[.val (.int p1), .unset, .unset, .unset, .unset, .unset] [(.ref b10), (.int (10 : Int32)), (.ref a), (.ref a)]) _
  refine Go.aastore X22 hx hZ e22 a_21 O_a (Ins.self (Exa.ext O_21.2 Ea10)) (i := 10) rfl (by decide) (hb hby at_75) ?_
  intro T23 h23 X23 e23 W23 V23
  have N23 := Fr.snoc X23 N21 ge_a
  have O_23 := O_21.wr W23 ge_a
  have a_23 := V23
  have Z23 : n0 ≤ h23.size := by rw [W23.size]; exact Z21
  show Go p e below T23 (mkF m 76 #[.val (.int p1), .unset, .unset, .unset, .unset, .unset] [(.ref a)]) _
  refine Go.dup X23 hx (hb hby at_76) rfl ?_
  show Go p e below T23 (mkF m 77 #[.val (.int p1), .unset, .unset, .unset, .unset, .unset] [(.ref a), (.ref a)]) _
  refine Go.bipush X23 hx (hb hby at_77) ?_
  show Go p e below T23 (mkF m 79 #[.val (.int p1), .unset, .unset, .unset, .unset, .unset] [(.int (11 : Int32)), (.ref a), (.ref a)]) _
  refine Go.getS X23 hx hZ hown (hwi hw 26 rfl) e23 (Sta.ext O_23.2 S11) (hb hby at_79) ?_
  intro T24 X24 e24
  show Go p e below T24 (mkF m 82 #[.val (.int p1), .unset, .unset, .unset, .unset, .unset] [(.ref b11), (.int (11 : Int32)), (.ref a), (.ref a)]) _
  refine Go.aastore X24 hx hZ e24 a_23 O_a (Ins.self (Exa.ext O_23.2 Ea11)) (i := 11) rfl (by decide) (hb hby at_82) ?_
  intro T25 h25 X25 e25 W25 V25
  have N25 := Fr.snoc X25 N23 ge_a
  have O_25 := O_23.wr W25 ge_a
  have a_25 := V25
  have Z25 : n0 ≤ h25.size := by rw [W25.size]; exact Z23
  show Go p e below T25 (mkF m 83 #[.val (.int p1), .unset, .unset, .unset, .unset, .unset] [(.ref a)]) _
  refine Go.dup X25 hx (hb hby at_83) rfl ?_
  show Go p e below T25 (mkF m 84 #[.val (.int p1), .unset, .unset, .unset, .unset, .unset] [(.ref a), (.ref a)]) _
  refine Go.bipush X25 hx (hb hby at_84) ?_
  show Go p e below T25 (mkF m 86 #[.val (.int p1), .unset, .unset, .unset, .unset, .unset] [(.int (12 : Int32)), (.ref a), (.ref a)]) _
  refine Go.getS X25 hx hZ hown (hwi hw 28 rfl) e25 (Sta.ext O_25.2 S12) (hb hby at_86) ?_
  intro T26 X26 e26
  show Go p e below T26 (mkF m 89 #[.val (.int p1), .unset, .unset, .unset, .unset, .unset] [(.ref b12), (.int (12 : Int32)), (.ref a), (.ref a)]) _
  refine Go.aastore X26 hx hZ e26 a_25 O_a (Ins.self (Exa.ext O_25.2 Ea12)) (i := 12) rfl (by decide) (hb hby at_89) ?_
  intro T27 h27 X27 e27 W27 V27
  have N27 := Fr.snoc X27 N25 ge_a
  have O_27 := O_25.wr W27 ge_a
  have a_27 := V27
  have Z27 : n0 ≤ h27.size := by rw [W27.size]; exact Z25
  show Go p e below T27 (mkF m 90 #[.val (.int p1), .unset, .unset, .unset, .unset, .unset] [(.ref a)]) _
  refine Go.dup X27 hx (hb hby at_90) rfl ?_
  show Go p e below T27 (mkF m 91 #[.val (.int p1), .unset, .unset, .unset, .unset, .unset] [(.ref a), (.ref a)]) _
  refine Go.bipush X27 hx (hb hby at_91) ?_
  show Go p e below T27 (mkF m 93 #[.val (.int p1), .unset, .unset, .unset, .unset, .unset] [(.int (13 : Int32)), (.ref a), (.ref a)]) _
  refine Go.getS X27 hx hZ hown (hwi hw 30 rfl) e27 (Sta.ext O_27.2 S13) (hb hby at_93) ?_
  intro T28 X28 e28
  show Go p e below T28 (mkF m 96 #[.val (.int p1), .unset, .unset, .unset, .unset, .unset] [(.ref b13), (.int (13 : Int32)), (.ref a), (.ref a)]) _
  refine Go.aastore X28 hx hZ e28 a_27 O_a (Ins.self (Exa.ext O_27.2 Ea13)) (i := 13) rfl (by decide) (hb hby at_96) ?_
  intro T29 h29 X29 e29 W29 V29
  have N29 := Fr.snoc X29 N27 ge_a
  have O_29 := O_27.wr W29 ge_a
  have a_29 := V29
  have Z29 : n0 ≤ h29.size := by rw [W29.size]; exact Z27
  show Go p e below T29 (mkF m 97 #[.val (.int p1), .unset, .unset, .unset, .unset, .unset] [(.ref a)]) _
  refine Go.dup X29 hx (hb hby at_97) rfl ?_
  show Go p e below T29 (mkF m 98 #[.val (.int p1), .unset, .unset, .unset, .unset, .unset] [(.ref a), (.ref a)]) _
  refine Go.bipush X29 hx (hb hby at_98) ?_
  show Go p e below T29 (mkF m 100 #[.val (.int p1), .unset, .unset, .unset, .unset, .unset] [(.int (14 : Int32)), (.ref a), (.ref a)]) _
  refine Go.getS X29 hx hZ hown (hwi hw 32 rfl) e29 (Sta.ext O_29.2 S14) (hb hby at_100) ?_
  intro T30 X30 e30
  show Go p e below T30 (mkF m 103 #[.val (.int p1), .unset, .unset, .unset, .unset, .unset] [(.ref b14), (.int (14 : Int32)), (.ref a), (.ref a)]) _
  refine Go.aastore X30 hx hZ e30 a_29 O_a (Ins.self (Exa.ext O_29.2 Ea14)) (i := 14) rfl (by decide) (hb hby at_103) ?_
  intro T31 h31 X31 e31 W31 V31
  have N31 := Fr.snoc X31 N29 ge_a
  have O_31 := O_29.wr W31 ge_a
  have a_31 := V31
  have Z31 : n0 ≤ h31.size := by rw [W31.size]; exact Z29
  show Go p e below T31 (mkF m 104 #[.val (.int p1), .unset, .unset, .unset, .unset, .unset] [(.ref a)]) _
  refine Go.dup X31 hx (hb hby at_104) rfl ?_
  show Go p e below T31 (mkF m 105 #[.val (.int p1), .unset, .unset, .unset, .unset, .unset] [(.ref a), (.ref a)]) _
  refine Go.bipush X31 hx (hb hby at_105) ?_
  show Go p e below T31 (mkF m 107 #[.val (.int p1), .unset, .unset, .unset, .unset, .unset] [(.int (15 : Int32)), (.ref a), (.ref a)]) _
  refine Go.getS X31 hx hZ hown (hwi hw 34 rfl) e31 (Sta.ext O_31.2 S15) (hb hby at_107) ?_
  intro T32 X32 e32
  show Go p e below T32 (mkF m 110 #[.val (.int p1), .unset, .unset, .unset, .unset, .unset] [(.ref b15), (.int (15 : Int32)), (.ref a), (.ref a)]) _
  refine Go.aastore X32 hx hZ e32 a_31 O_a (Ins.self (Exa.ext O_31.2 Ea15)) (i := 15) rfl (by decide) (hb hby at_110) ?_
  intro T33 h33 X33 e33 W33 V33
  have N33 := Fr.snoc X33 N31 ge_a
  have O_33 := O_31.wr W33 ge_a
  have a_33 := V33
  have Z33 : n0 ≤ h33.size := by rw [W33.size]; exact Z31
  show Go p e below T33 (mkF m 111 #[.val (.int p1), .unset, .unset, .unset, .unset, .unset] [(.ref a)]) _
  refine Go.dup X33 hx (hb hby at_111) rfl ?_
  show Go p e below T33 (mkF m 112 #[.val (.int p1), .unset, .unset, .unset, .unset, .unset] [(.ref a), (.ref a)]) _
  refine Go.bipush X33 hx (hb hby at_112) ?_
  show Go p e below T33 (mkF m 114 #[.val (.int p1), .unset, .unset, .unset, .unset, .unset] [(.int (16 : Int32)), (.ref a), (.ref a)]) _
  refine Go.getS X33 hx hZ hown (hwi hw 36 rfl) e33 (Sta.ext O_33.2 S16) (hb hby at_114) ?_
  intro T34 X34 e34
  show Go p e below T34 (mkF m 117 #[.val (.int p1), .unset, .unset, .unset, .unset, .unset] [(.ref b16), (.int (16 : Int32)), (.ref a), (.ref a)]) _
  refine Go.aastore X34 hx hZ e34 a_33 O_a (Ins.self (Exa.ext O_33.2 Ea16)) (i := 16) rfl (by decide) (hb hby at_117) ?_
  intro T35 h35 X35 e35 W35 V35
  have N35 := Fr.snoc X35 N33 ge_a
  have O_35 := O_33.wr W35 ge_a
  have a_35 := V35
  have Z35 : n0 ≤ h35.size := by rw [W35.size]; exact Z33
  show Go p e below T35 (mkF m 118 #[.val (.int p1), .unset, .unset, .unset, .unset, .unset] [(.ref a)]) _
  refine Go.astore_n X35 hx (hb hby at_118) rfl (L' := #[.val (.int p1), .val (.ref a), .unset, .unset, .unset, .unset]) rfl ?_
  show Go p e below T35 (mkF m 119 #[.val (.int p1), .val (.ref a), .unset, .unset, .unset, .unset] []) _
  refine Go.iload_n X35 hx (hb hby at_119) rfl ?_
  show Go p e below T35 (mkF m 120 #[.val (.int p1), .val (.ref a), .unset, .unset, .unset, .unset] [(.int p1)]) _
  refine Go.ldcI X35 hx hZ hown (hwi hw 38 rfl) (hb hby at_120) ?_
  show Go p e below T35 (mkF m 122 #[.val (.int p1), .val (.ref a), .unset, .unset, .unset, .unset] [(.int (2147483647 : Int32)), (.int p1)]) _
  refine Go.iand X35 hx (hb hby at_122) ?_
  show Go p e below T35 (mkF m 123 #[.val (.int p1), .val (.ref a), .unset, .unset, .unset, .unset] [(.int (p1 &&& (2147483647 : Int32)))]) _
  refine Go.bipush X35 hx (hb hby at_123) ?_
  show Go p e below T35 (mkF m 125 #[.val (.int p1), .val (.ref a), .unset, .unset, .unset, .unset] [(.int (17 : Int32)), (.int (p1 &&& (2147483647 : Int32)))]) _
  refine Go.irem X35 hx (hb hby at_125) (by decide) ?_
  show Go p e below T35 (mkF m 126 #[.val (.int p1), .val (.ref a), .unset, .unset, .unset, .unset] [(.int ((p1 &&& (2147483647 : Int32)) % (17 : Int32)))]) _
  rcases i17 p1 with hi | hi | hi | hi | hi | hi | hi | hi | hi | hi | hi | hi | hi | hi | hi | hi | hi
  · rw [hi]
    show Go p e below T35 (mkF m 126 #[.val (.int p1), .val (.ref a), .unset, .unset, .unset, .unset] [(.int (0 : Int32))]) _
    refine Go.istore_n X35 hx (hb hby at_126) (L' := #[.val (.int p1), .val (.ref a), .val (.int (0 : Int32)), .unset, .unset, .unset]) rfl ?_
    show Go p e below T35 (mkF m 127 #[.val (.int p1), .val (.ref a), .val (.int (0 : Int32)), .unset, .unset, .unset] []) _
    refine Go.aload_n X35 hx (hb hby at_127) rfl rfl ?_
    show Go p e below T35 (mkF m 128 #[.val (.int p1), .val (.ref a), .val (.int (0 : Int32)), .unset, .unset, .unset] [(.ref a)]) _
    refine Go.iload_n X35 hx (hb hby at_128) rfl ?_
    show Go p e below T35 (mkF m 129 #[.val (.int p1), .val (.ref a), .val (.int (0 : Int32)), .unset, .unset, .unset] [(.int (0 : Int32)), (.ref a)]) _
    refine Go.aaload X35 hx hZ e35 a_35 rfl (i := 0) rfl (by decide) rfl (hb hby at_129) ?_
    show Go p e below T35 (mkF m 130 #[.val (.int p1), .val (.ref a), .val (.int (0 : Int32)), .unset, .unset, .unset] [(.ref b0)]) _
    refine Go.astore_n X35 hx (hb hby at_130) rfl (L' := #[.val (.int p1), .val (.ref a), .val (.int (0 : Int32)), .val (.ref b0), .unset, .unset]) rfl ?_
    show Go p e below T35 (mkF m 131 #[.val (.int p1), .val (.ref a), .val (.int (0 : Int32)), .val (.ref b0), .unset, .unset] []) _
    refine Go.aload_n X35 hx (hb hby at_131) rfl rfl ?_
    show Go p e below T35 (mkF m 132 #[.val (.int p1), .val (.ref a), .val (.int (0 : Int32)), .val (.ref b0), .unset, .unset] [(.ref b0)]) _
    refine Go.callV X35 hx hZ hown (hwi hw 39 rfl) (hwi hw 40 rfl) (notFace_of_selects (args := #[]) (mvT hZ (hwi hw 42 rfl))) (hwi hw 42 rfl) (hwi hw 41 rfl) (hwi hw 43 rfl) (hwi hw 3 rfl) (by decide) e35 (Exa.ext O_35.2 Ea0) (argsL := []) (rmnp0 l Z a0 hw b0 b1 b2 b3 b4 b5 b6 b7 b8 b9 b10 b11 b12 b13 b14 b15 b16 bH h35 n0 Z35 O_35 ty) hml rfl (ps := []) (r := (some .boolean)) (by decide +kernel) rfl (rest := []) rfl (W := 0) (Nat.le_of_eq rfl) (by decide) (by decide) (by decide) (by decide) (hb hby at_132) ?_
    rintro _ T36 L36 X36 ⟨rfl, Nq36, e36⟩
    have N36 := Fr.app N35 Nq36
    show Go p e below T36 (mkF m 135 #[.val (.int p1), .val (.ref a), .val (.int (0 : Int32)), .val (.ref b0), .unset, .unset] [(.int (0 : Int32))]) _
    refine Go.istore X36 hx (hb hby at_135) (L' := #[.val (.int p1), .val (.ref a), .val (.int (0 : Int32)), .val (.ref b0), .val (.int (0 : Int32)), .unset]) rfl ?_
    show Go p e below T36 (mkF m 137 #[.val (.int p1), .val (.ref a), .val (.int (0 : Int32)), .val (.ref b0), .val (.int (0 : Int32)), .unset] []) _
    refine Go.iload_n X36 hx (hb hby at_137) rfl ?_
    show Go p e below T36 (mkF m 138 #[.val (.int p1), .val (.ref a), .val (.int (0 : Int32)), .val (.ref b0), .val (.int (0 : Int32)), .unset] [(.int (0 : Int32))]) _
    refine Go.bipush X36 hx (hb hby at_138) ?_
    show Go p e below T36 (mkF m 140 #[.val (.int p1), .val (.ref a), .val (.int (0 : Int32)), .val (.ref b0), .val (.int (0 : Int32)), .unset] [(.int (7 : Int32)), (.int (0 : Int32))]) _
    refine Go.icmp X36 hx (hb hby at_140) (pc' := 155) (by decide) (ic_eq _ _) (fun c140 => ?_) (fun c140 => ?_)
    · exact absurd c140 (by decide)
    show Go p e below T36 (mkF m 143 #[.val (.int p1), .val (.ref a), .val (.int (0 : Int32)), .val (.ref b0), .val (.int (0 : Int32)), .unset] []) _
    refine Go.iload_n X36 hx (hb hby at_143) rfl ?_
    show Go p e below T36 (mkF m 144 #[.val (.int p1), .val (.ref a), .val (.int (0 : Int32)), .val (.ref b0), .val (.int (0 : Int32)), .unset] [(.int (0 : Int32))]) _
    refine Go.bipush X36 hx (hb hby at_144) ?_
    show Go p e below T36 (mkF m 146 #[.val (.int p1), .val (.ref a), .val (.int (0 : Int32)), .val (.ref b0), .val (.int (0 : Int32)), .unset] [(.int (8 : Int32)), (.int (0 : Int32))]) _
    refine Go.icmp X36 hx (hb hby at_146) (pc' := 155) (by decide) (ic_eq _ _) (fun c146 => ?_) (fun c146 => ?_)
    · exact absurd c146 (by decide)
    show Go p e below T36 (mkF m 149 #[.val (.int p1), .val (.ref a), .val (.int (0 : Int32)), .val (.ref b0), .val (.int (0 : Int32)), .unset] []) _
    refine Go.iload_n X36 hx (hb hby at_149) rfl ?_
    show Go p e below T36 (mkF m 150 #[.val (.int p1), .val (.ref a), .val (.int (0 : Int32)), .val (.ref b0), .val (.int (0 : Int32)), .unset] [(.int (0 : Int32))]) _
    refine Go.bipush X36 hx (hb hby at_150) ?_
    show Go p e below T36 (mkF m 152 #[.val (.int p1), .val (.ref a), .val (.int (0 : Int32)), .val (.ref b0), .val (.int (0 : Int32)), .unset] [(.int (9 : Int32)), (.int (0 : Int32))]) _
    refine Go.icmp X36 hx (hb hby at_152) (pc' := 159) (by decide) (ic_ne _ _) (fun c152 => ?_) (fun c152 => ?_)
    rotate_left
    · exact absurd (by decide) c152
    show Go p e below T36 (mkF m 159 #[.val (.int p1), .val (.ref a), .val (.int (0 : Int32)), .val (.ref b0), .val (.int (0 : Int32)), .unset] []) _
    refine Go.iconst X36 hx (hb hby at_159) ?_
    show Go p e below T36 (mkF m 160 #[.val (.int p1), .val (.ref a), .val (.int (0 : Int32)), .val (.ref b0), .val (.int (0 : Int32)), .unset] [(.int (0 : Int32))]) _
    refine Go.istore X36 hx (hb hby at_160) (L' := #[.val (.int p1), .val (.ref a), .val (.int (0 : Int32)), .val (.ref b0), .val (.int (0 : Int32)), .val (.int (0 : Int32))]) rfl ?_
    show Go p e below T36 (mkF m 162 #[.val (.int p1), .val (.ref a), .val (.int (0 : Int32)), .val (.ref b0), .val (.int (0 : Int32)), .val (.int (0 : Int32))] []) _
    refine Go.iload X36 hx (hb hby at_162) rfl ?_
    show Go p e below T36 (mkF m 164 #[.val (.int p1), .val (.ref a), .val (.int (0 : Int32)), .val (.ref b0), .val (.int (0 : Int32)), .val (.int (0 : Int32))] [(.int (0 : Int32))]) _
    refine Go.iload X36 hx (hb hby at_164) rfl ?_
    show Go p e below T36 (mkF m 166 #[.val (.int p1), .val (.ref a), .val (.int (0 : Int32)), .val (.ref b0), .val (.int (0 : Int32)), .val (.int (0 : Int32))] [(.int (0 : Int32)), (.int (0 : Int32))]) _
    refine Go.icmp X36 hx (hb hby at_166) (pc' := 188) (by decide) (ic_ne _ _) (fun c166 => ?_) (fun c166 => ?_)
    · exact absurd c166 (by decide)
    replace c166 := Decidable.not_not.mp c166
    show Go p e below T36 (mkF m 169 #[.val (.int p1), .val (.ref a), .val (.int (0 : Int32)), .val (.ref b0), .val (.int (0 : Int32)), .val (.int (0 : Int32))] []) _
    refine Go.iload X36 hx (hb hby at_169) rfl ?_
    show Go p e below T36 (mkF m 171 #[.val (.int p1), .val (.ref a), .val (.int (0 : Int32)), .val (.ref b0), .val (.int (0 : Int32)), .val (.int (0 : Int32))] [(.int (0 : Int32))]) _
    refine Go.ifc X36 hx (hb hby at_171) (pc' := 184) (by decide) (iz_eq _) (fun c171 => ?_) (fun c171 => ?_)
    rotate_left
    · exact absurd (by decide) c171
    show Go p e below T36 (mkF m 184 #[.val (.int p1), .val (.ref a), .val (.int (0 : Int32)), .val (.ref b0), .val (.int (0 : Int32)), .val (.int (0 : Int32))] []) _
    refine Go.iconst X36 hx (hb hby at_184) ?_
    show Go p e below T36 (mkF m 185 #[.val (.int p1), .val (.ref a), .val (.int (0 : Int32)), .val (.ref b0), .val (.int (0 : Int32)), .val (.int (0 : Int32))] [(.int (1 : Int32))]) _
    refine Go.goto X36 hx (hb hby at_185) (pc' := 189) (by decide) ?_
    show Go p e below T36 (mkF m 189 #[.val (.int p1), .val (.ref a), .val (.int (0 : Int32)), .val (.ref b0), .val (.int (0 : Int32)), .val (.int (0 : Int32))] [(.int (1 : Int32))]) _
    refine Go.ret_n X36 hx hret hlk (by simp) (hb hby at_189) (by decide) (by decide) ?_
    rw [e36]
    exact ⟨rfl, N36⟩
  · rw [hi]
    show Go p e below T35 (mkF m 126 #[.val (.int p1), .val (.ref a), .unset, .unset, .unset, .unset] [(.int (1 : Int32))]) _
    refine Go.istore_n X35 hx (hb hby at_126) (L' := #[.val (.int p1), .val (.ref a), .val (.int (1 : Int32)), .unset, .unset, .unset]) rfl ?_
    show Go p e below T35 (mkF m 127 #[.val (.int p1), .val (.ref a), .val (.int (1 : Int32)), .unset, .unset, .unset] []) _
    refine Go.aload_n X35 hx (hb hby at_127) rfl rfl ?_
    show Go p e below T35 (mkF m 128 #[.val (.int p1), .val (.ref a), .val (.int (1 : Int32)), .unset, .unset, .unset] [(.ref a)]) _
    refine Go.iload_n X35 hx (hb hby at_128) rfl ?_
    show Go p e below T35 (mkF m 129 #[.val (.int p1), .val (.ref a), .val (.int (1 : Int32)), .unset, .unset, .unset] [(.int (1 : Int32)), (.ref a)]) _
    refine Go.aaload X35 hx hZ e35 a_35 rfl (i := 1) rfl (by decide) rfl (hb hby at_129) ?_
    show Go p e below T35 (mkF m 130 #[.val (.int p1), .val (.ref a), .val (.int (1 : Int32)), .unset, .unset, .unset] [(.ref b1)]) _
    refine Go.astore_n X35 hx (hb hby at_130) rfl (L' := #[.val (.int p1), .val (.ref a), .val (.int (1 : Int32)), .val (.ref b1), .unset, .unset]) rfl ?_
    show Go p e below T35 (mkF m 131 #[.val (.int p1), .val (.ref a), .val (.int (1 : Int32)), .val (.ref b1), .unset, .unset] []) _
    refine Go.aload_n X35 hx (hb hby at_131) rfl rfl ?_
    show Go p e below T35 (mkF m 132 #[.val (.int p1), .val (.ref a), .val (.int (1 : Int32)), .val (.ref b1), .unset, .unset] [(.ref b1)]) _
    refine Go.callV X35 hx hZ hown (hwi hw 39 rfl) (hwi hw 40 rfl) (notFace_of_selects (args := #[]) (mvT hZ (hwi hw 42 rfl))) (hwi hw 42 rfl) (hwi hw 41 rfl) (hwi hw 43 rfl) (hwi hw 3 rfl) (by decide) e35 (Exa.ext O_35.2 Ea1) (argsL := []) (rmnp1 l Z a0 hw b0 b1 b2 b3 b4 b5 b6 b7 b8 b9 b10 b11 b12 b13 b14 b15 b16 bH h35 n0 Z35 O_35 ty) hml rfl (ps := []) (r := (some .boolean)) (by decide +kernel) rfl (rest := []) rfl (W := 0) (Nat.le_of_eq rfl) (by decide) (by decide) (by decide) (by decide) (hb hby at_132) ?_
    rintro _ T37 L37 X37 ⟨rfl, Nq37, e37⟩
    have N37 := Fr.app N35 Nq37
    show Go p e below T37 (mkF m 135 #[.val (.int p1), .val (.ref a), .val (.int (1 : Int32)), .val (.ref b1), .unset, .unset] [(.int (0 : Int32))]) _
    refine Go.istore X37 hx (hb hby at_135) (L' := #[.val (.int p1), .val (.ref a), .val (.int (1 : Int32)), .val (.ref b1), .val (.int (0 : Int32)), .unset]) rfl ?_
    show Go p e below T37 (mkF m 137 #[.val (.int p1), .val (.ref a), .val (.int (1 : Int32)), .val (.ref b1), .val (.int (0 : Int32)), .unset] []) _
    refine Go.iload_n X37 hx (hb hby at_137) rfl ?_
    show Go p e below T37 (mkF m 138 #[.val (.int p1), .val (.ref a), .val (.int (1 : Int32)), .val (.ref b1), .val (.int (0 : Int32)), .unset] [(.int (1 : Int32))]) _
    refine Go.bipush X37 hx (hb hby at_138) ?_
    show Go p e below T37 (mkF m 140 #[.val (.int p1), .val (.ref a), .val (.int (1 : Int32)), .val (.ref b1), .val (.int (0 : Int32)), .unset] [(.int (7 : Int32)), (.int (1 : Int32))]) _
    refine Go.icmp X37 hx (hb hby at_140) (pc' := 155) (by decide) (ic_eq _ _) (fun c140 => ?_) (fun c140 => ?_)
    · exact absurd c140 (by decide)
    show Go p e below T37 (mkF m 143 #[.val (.int p1), .val (.ref a), .val (.int (1 : Int32)), .val (.ref b1), .val (.int (0 : Int32)), .unset] []) _
    refine Go.iload_n X37 hx (hb hby at_143) rfl ?_
    show Go p e below T37 (mkF m 144 #[.val (.int p1), .val (.ref a), .val (.int (1 : Int32)), .val (.ref b1), .val (.int (0 : Int32)), .unset] [(.int (1 : Int32))]) _
    refine Go.bipush X37 hx (hb hby at_144) ?_
    show Go p e below T37 (mkF m 146 #[.val (.int p1), .val (.ref a), .val (.int (1 : Int32)), .val (.ref b1), .val (.int (0 : Int32)), .unset] [(.int (8 : Int32)), (.int (1 : Int32))]) _
    refine Go.icmp X37 hx (hb hby at_146) (pc' := 155) (by decide) (ic_eq _ _) (fun c146 => ?_) (fun c146 => ?_)
    · exact absurd c146 (by decide)
    show Go p e below T37 (mkF m 149 #[.val (.int p1), .val (.ref a), .val (.int (1 : Int32)), .val (.ref b1), .val (.int (0 : Int32)), .unset] []) _
    refine Go.iload_n X37 hx (hb hby at_149) rfl ?_
    show Go p e below T37 (mkF m 150 #[.val (.int p1), .val (.ref a), .val (.int (1 : Int32)), .val (.ref b1), .val (.int (0 : Int32)), .unset] [(.int (1 : Int32))]) _
    refine Go.bipush X37 hx (hb hby at_150) ?_
    show Go p e below T37 (mkF m 152 #[.val (.int p1), .val (.ref a), .val (.int (1 : Int32)), .val (.ref b1), .val (.int (0 : Int32)), .unset] [(.int (9 : Int32)), (.int (1 : Int32))]) _
    refine Go.icmp X37 hx (hb hby at_152) (pc' := 159) (by decide) (ic_ne _ _) (fun c152 => ?_) (fun c152 => ?_)
    rotate_left
    · exact absurd (by decide) c152
    show Go p e below T37 (mkF m 159 #[.val (.int p1), .val (.ref a), .val (.int (1 : Int32)), .val (.ref b1), .val (.int (0 : Int32)), .unset] []) _
    refine Go.iconst X37 hx (hb hby at_159) ?_
    show Go p e below T37 (mkF m 160 #[.val (.int p1), .val (.ref a), .val (.int (1 : Int32)), .val (.ref b1), .val (.int (0 : Int32)), .unset] [(.int (0 : Int32))]) _
    refine Go.istore X37 hx (hb hby at_160) (L' := #[.val (.int p1), .val (.ref a), .val (.int (1 : Int32)), .val (.ref b1), .val (.int (0 : Int32)), .val (.int (0 : Int32))]) rfl ?_
    show Go p e below T37 (mkF m 162 #[.val (.int p1), .val (.ref a), .val (.int (1 : Int32)), .val (.ref b1), .val (.int (0 : Int32)), .val (.int (0 : Int32))] []) _
    refine Go.iload X37 hx (hb hby at_162) rfl ?_
    show Go p e below T37 (mkF m 164 #[.val (.int p1), .val (.ref a), .val (.int (1 : Int32)), .val (.ref b1), .val (.int (0 : Int32)), .val (.int (0 : Int32))] [(.int (0 : Int32))]) _
    refine Go.iload X37 hx (hb hby at_164) rfl ?_
    show Go p e below T37 (mkF m 166 #[.val (.int p1), .val (.ref a), .val (.int (1 : Int32)), .val (.ref b1), .val (.int (0 : Int32)), .val (.int (0 : Int32))] [(.int (0 : Int32)), (.int (0 : Int32))]) _
    refine Go.icmp X37 hx (hb hby at_166) (pc' := 188) (by decide) (ic_ne _ _) (fun c166 => ?_) (fun c166 => ?_)
    · exact absurd c166 (by decide)
    replace c166 := Decidable.not_not.mp c166
    show Go p e below T37 (mkF m 169 #[.val (.int p1), .val (.ref a), .val (.int (1 : Int32)), .val (.ref b1), .val (.int (0 : Int32)), .val (.int (0 : Int32))] []) _
    refine Go.iload X37 hx (hb hby at_169) rfl ?_
    show Go p e below T37 (mkF m 171 #[.val (.int p1), .val (.ref a), .val (.int (1 : Int32)), .val (.ref b1), .val (.int (0 : Int32)), .val (.int (0 : Int32))] [(.int (0 : Int32))]) _
    refine Go.ifc X37 hx (hb hby at_171) (pc' := 184) (by decide) (iz_eq _) (fun c171 => ?_) (fun c171 => ?_)
    rotate_left
    · exact absurd (by decide) c171
    show Go p e below T37 (mkF m 184 #[.val (.int p1), .val (.ref a), .val (.int (1 : Int32)), .val (.ref b1), .val (.int (0 : Int32)), .val (.int (0 : Int32))] []) _
    refine Go.iconst X37 hx (hb hby at_184) ?_
    show Go p e below T37 (mkF m 185 #[.val (.int p1), .val (.ref a), .val (.int (1 : Int32)), .val (.ref b1), .val (.int (0 : Int32)), .val (.int (0 : Int32))] [(.int (1 : Int32))]) _
    refine Go.goto X37 hx (hb hby at_185) (pc' := 189) (by decide) ?_
    show Go p e below T37 (mkF m 189 #[.val (.int p1), .val (.ref a), .val (.int (1 : Int32)), .val (.ref b1), .val (.int (0 : Int32)), .val (.int (0 : Int32))] [(.int (1 : Int32))]) _
    refine Go.ret_n X37 hx hret hlk (by simp) (hb hby at_189) (by decide) (by decide) ?_
    rw [e37]
    exact ⟨rfl, N37⟩
  · rw [hi]
    show Go p e below T35 (mkF m 126 #[.val (.int p1), .val (.ref a), .unset, .unset, .unset, .unset] [(.int (2 : Int32))]) _
    refine Go.istore_n X35 hx (hb hby at_126) (L' := #[.val (.int p1), .val (.ref a), .val (.int (2 : Int32)), .unset, .unset, .unset]) rfl ?_
    show Go p e below T35 (mkF m 127 #[.val (.int p1), .val (.ref a), .val (.int (2 : Int32)), .unset, .unset, .unset] []) _
    refine Go.aload_n X35 hx (hb hby at_127) rfl rfl ?_
    show Go p e below T35 (mkF m 128 #[.val (.int p1), .val (.ref a), .val (.int (2 : Int32)), .unset, .unset, .unset] [(.ref a)]) _
    refine Go.iload_n X35 hx (hb hby at_128) rfl ?_
    show Go p e below T35 (mkF m 129 #[.val (.int p1), .val (.ref a), .val (.int (2 : Int32)), .unset, .unset, .unset] [(.int (2 : Int32)), (.ref a)]) _
    refine Go.aaload X35 hx hZ e35 a_35 rfl (i := 2) rfl (by decide) rfl (hb hby at_129) ?_
    show Go p e below T35 (mkF m 130 #[.val (.int p1), .val (.ref a), .val (.int (2 : Int32)), .unset, .unset, .unset] [(.ref b2)]) _
    refine Go.astore_n X35 hx (hb hby at_130) rfl (L' := #[.val (.int p1), .val (.ref a), .val (.int (2 : Int32)), .val (.ref b2), .unset, .unset]) rfl ?_
    show Go p e below T35 (mkF m 131 #[.val (.int p1), .val (.ref a), .val (.int (2 : Int32)), .val (.ref b2), .unset, .unset] []) _
    refine Go.aload_n X35 hx (hb hby at_131) rfl rfl ?_
    show Go p e below T35 (mkF m 132 #[.val (.int p1), .val (.ref a), .val (.int (2 : Int32)), .val (.ref b2), .unset, .unset] [(.ref b2)]) _
    refine Go.callV X35 hx hZ hown (hwi hw 39 rfl) (hwi hw 40 rfl) (notFace_of_selects (args := #[]) (mvT hZ (hwi hw 42 rfl))) (hwi hw 42 rfl) (hwi hw 41 rfl) (hwi hw 43 rfl) (hwi hw 3 rfl) (by decide) e35 (Exa.ext O_35.2 Ea2) (argsL := []) (rmnp2 l Z a0 hw b0 b1 b2 b3 b4 b5 b6 b7 b8 b9 b10 b11 b12 b13 b14 b15 b16 bH h35 n0 Z35 O_35 ty) hml rfl (ps := []) (r := (some .boolean)) (by decide +kernel) rfl (rest := []) rfl (W := 0) (Nat.le_of_eq rfl) (by decide) (by decide) (by decide) (by decide) (hb hby at_132) ?_
    rintro _ T38 L38 X38 ⟨rfl, Nq38, e38⟩
    have N38 := Fr.app N35 Nq38
    show Go p e below T38 (mkF m 135 #[.val (.int p1), .val (.ref a), .val (.int (2 : Int32)), .val (.ref b2), .unset, .unset] [(.int (0 : Int32))]) _
    refine Go.istore X38 hx (hb hby at_135) (L' := #[.val (.int p1), .val (.ref a), .val (.int (2 : Int32)), .val (.ref b2), .val (.int (0 : Int32)), .unset]) rfl ?_
    show Go p e below T38 (mkF m 137 #[.val (.int p1), .val (.ref a), .val (.int (2 : Int32)), .val (.ref b2), .val (.int (0 : Int32)), .unset] []) _
    refine Go.iload_n X38 hx (hb hby at_137) rfl ?_
    show Go p e below T38 (mkF m 138 #[.val (.int p1), .val (.ref a), .val (.int (2 : Int32)), .val (.ref b2), .val (.int (0 : Int32)), .unset] [(.int (2 : Int32))]) _
    refine Go.bipush X38 hx (hb hby at_138) ?_
    show Go p e below T38 (mkF m 140 #[.val (.int p1), .val (.ref a), .val (.int (2 : Int32)), .val (.ref b2), .val (.int (0 : Int32)), .unset] [(.int (7 : Int32)), (.int (2 : Int32))]) _
    refine Go.icmp X38 hx (hb hby at_140) (pc' := 155) (by decide) (ic_eq _ _) (fun c140 => ?_) (fun c140 => ?_)
    · exact absurd c140 (by decide)
    show Go p e below T38 (mkF m 143 #[.val (.int p1), .val (.ref a), .val (.int (2 : Int32)), .val (.ref b2), .val (.int (0 : Int32)), .unset] []) _
    refine Go.iload_n X38 hx (hb hby at_143) rfl ?_
    show Go p e below T38 (mkF m 144 #[.val (.int p1), .val (.ref a), .val (.int (2 : Int32)), .val (.ref b2), .val (.int (0 : Int32)), .unset] [(.int (2 : Int32))]) _
    refine Go.bipush X38 hx (hb hby at_144) ?_
    show Go p e below T38 (mkF m 146 #[.val (.int p1), .val (.ref a), .val (.int (2 : Int32)), .val (.ref b2), .val (.int (0 : Int32)), .unset] [(.int (8 : Int32)), (.int (2 : Int32))]) _
    refine Go.icmp X38 hx (hb hby at_146) (pc' := 155) (by decide) (ic_eq _ _) (fun c146 => ?_) (fun c146 => ?_)
    · exact absurd c146 (by decide)
    show Go p e below T38 (mkF m 149 #[.val (.int p1), .val (.ref a), .val (.int (2 : Int32)), .val (.ref b2), .val (.int (0 : Int32)), .unset] []) _
    refine Go.iload_n X38 hx (hb hby at_149) rfl ?_
    show Go p e below T38 (mkF m 150 #[.val (.int p1), .val (.ref a), .val (.int (2 : Int32)), .val (.ref b2), .val (.int (0 : Int32)), .unset] [(.int (2 : Int32))]) _
    refine Go.bipush X38 hx (hb hby at_150) ?_
    show Go p e below T38 (mkF m 152 #[.val (.int p1), .val (.ref a), .val (.int (2 : Int32)), .val (.ref b2), .val (.int (0 : Int32)), .unset] [(.int (9 : Int32)), (.int (2 : Int32))]) _
    refine Go.icmp X38 hx (hb hby at_152) (pc' := 159) (by decide) (ic_ne _ _) (fun c152 => ?_) (fun c152 => ?_)
    rotate_left
    · exact absurd (by decide) c152
    show Go p e below T38 (mkF m 159 #[.val (.int p1), .val (.ref a), .val (.int (2 : Int32)), .val (.ref b2), .val (.int (0 : Int32)), .unset] []) _
    refine Go.iconst X38 hx (hb hby at_159) ?_
    show Go p e below T38 (mkF m 160 #[.val (.int p1), .val (.ref a), .val (.int (2 : Int32)), .val (.ref b2), .val (.int (0 : Int32)), .unset] [(.int (0 : Int32))]) _
    refine Go.istore X38 hx (hb hby at_160) (L' := #[.val (.int p1), .val (.ref a), .val (.int (2 : Int32)), .val (.ref b2), .val (.int (0 : Int32)), .val (.int (0 : Int32))]) rfl ?_
    show Go p e below T38 (mkF m 162 #[.val (.int p1), .val (.ref a), .val (.int (2 : Int32)), .val (.ref b2), .val (.int (0 : Int32)), .val (.int (0 : Int32))] []) _
    refine Go.iload X38 hx (hb hby at_162) rfl ?_
    show Go p e below T38 (mkF m 164 #[.val (.int p1), .val (.ref a), .val (.int (2 : Int32)), .val (.ref b2), .val (.int (0 : Int32)), .val (.int (0 : Int32))] [(.int (0 : Int32))]) _
    refine Go.iload X38 hx (hb hby at_164) rfl ?_
    show Go p e below T38 (mkF m 166 #[.val (.int p1), .val (.ref a), .val (.int (2 : Int32)), .val (.ref b2), .val (.int (0 : Int32)), .val (.int (0 : Int32))] [(.int (0 : Int32)), (.int (0 : Int32))]) _
    refine Go.icmp X38 hx (hb hby at_166) (pc' := 188) (by decide) (ic_ne _ _) (fun c166 => ?_) (fun c166 => ?_)
    · exact absurd c166 (by decide)
    replace c166 := Decidable.not_not.mp c166
    show Go p e below T38 (mkF m 169 #[.val (.int p1), .val (.ref a), .val (.int (2 : Int32)), .val (.ref b2), .val (.int (0 : Int32)), .val (.int (0 : Int32))] []) _
    refine Go.iload X38 hx (hb hby at_169) rfl ?_
    show Go p e below T38 (mkF m 171 #[.val (.int p1), .val (.ref a), .val (.int (2 : Int32)), .val (.ref b2), .val (.int (0 : Int32)), .val (.int (0 : Int32))] [(.int (0 : Int32))]) _
    refine Go.ifc X38 hx (hb hby at_171) (pc' := 184) (by decide) (iz_eq _) (fun c171 => ?_) (fun c171 => ?_)
    rotate_left
    · exact absurd (by decide) c171
    show Go p e below T38 (mkF m 184 #[.val (.int p1), .val (.ref a), .val (.int (2 : Int32)), .val (.ref b2), .val (.int (0 : Int32)), .val (.int (0 : Int32))] []) _
    refine Go.iconst X38 hx (hb hby at_184) ?_
    show Go p e below T38 (mkF m 185 #[.val (.int p1), .val (.ref a), .val (.int (2 : Int32)), .val (.ref b2), .val (.int (0 : Int32)), .val (.int (0 : Int32))] [(.int (1 : Int32))]) _
    refine Go.goto X38 hx (hb hby at_185) (pc' := 189) (by decide) ?_
    show Go p e below T38 (mkF m 189 #[.val (.int p1), .val (.ref a), .val (.int (2 : Int32)), .val (.ref b2), .val (.int (0 : Int32)), .val (.int (0 : Int32))] [(.int (1 : Int32))]) _
    refine Go.ret_n X38 hx hret hlk (by simp) (hb hby at_189) (by decide) (by decide) ?_
    rw [e38]
    exact ⟨rfl, N38⟩
  · rw [hi]
    show Go p e below T35 (mkF m 126 #[.val (.int p1), .val (.ref a), .unset, .unset, .unset, .unset] [(.int (3 : Int32))]) _
    refine Go.istore_n X35 hx (hb hby at_126) (L' := #[.val (.int p1), .val (.ref a), .val (.int (3 : Int32)), .unset, .unset, .unset]) rfl ?_
    show Go p e below T35 (mkF m 127 #[.val (.int p1), .val (.ref a), .val (.int (3 : Int32)), .unset, .unset, .unset] []) _
    refine Go.aload_n X35 hx (hb hby at_127) rfl rfl ?_
    show Go p e below T35 (mkF m 128 #[.val (.int p1), .val (.ref a), .val (.int (3 : Int32)), .unset, .unset, .unset] [(.ref a)]) _
    refine Go.iload_n X35 hx (hb hby at_128) rfl ?_
    show Go p e below T35 (mkF m 129 #[.val (.int p1), .val (.ref a), .val (.int (3 : Int32)), .unset, .unset, .unset] [(.int (3 : Int32)), (.ref a)]) _
    refine Go.aaload X35 hx hZ e35 a_35 rfl (i := 3) rfl (by decide) rfl (hb hby at_129) ?_
    show Go p e below T35 (mkF m 130 #[.val (.int p1), .val (.ref a), .val (.int (3 : Int32)), .unset, .unset, .unset] [(.ref b3)]) _
    refine Go.astore_n X35 hx (hb hby at_130) rfl (L' := #[.val (.int p1), .val (.ref a), .val (.int (3 : Int32)), .val (.ref b3), .unset, .unset]) rfl ?_
    show Go p e below T35 (mkF m 131 #[.val (.int p1), .val (.ref a), .val (.int (3 : Int32)), .val (.ref b3), .unset, .unset] []) _
    refine Go.aload_n X35 hx (hb hby at_131) rfl rfl ?_
    show Go p e below T35 (mkF m 132 #[.val (.int p1), .val (.ref a), .val (.int (3 : Int32)), .val (.ref b3), .unset, .unset] [(.ref b3)]) _
    refine Go.callV X35 hx hZ hown (hwi hw 39 rfl) (hwi hw 40 rfl) (notFace_of_selects (args := #[]) (mvT hZ (hwi hw 42 rfl))) (hwi hw 42 rfl) (hwi hw 41 rfl) (hwi hw 43 rfl) (hwi hw 3 rfl) (by decide) e35 (Exa.ext O_35.2 Ea3) (argsL := []) (rmnp3 l Z a0 hw b0 b1 b2 b3 b4 b5 b6 b7 b8 b9 b10 b11 b12 b13 b14 b15 b16 bH h35 n0 Z35 O_35 ty) hml rfl (ps := []) (r := (some .boolean)) (by decide +kernel) rfl (rest := []) rfl (W := 0) (Nat.le_of_eq rfl) (by decide) (by decide) (by decide) (by decide) (hb hby at_132) ?_
    rintro _ T39 L39 X39 ⟨rfl, Nq39, e39⟩
    have N39 := Fr.app N35 Nq39
    show Go p e below T39 (mkF m 135 #[.val (.int p1), .val (.ref a), .val (.int (3 : Int32)), .val (.ref b3), .unset, .unset] [(.int (0 : Int32))]) _
    refine Go.istore X39 hx (hb hby at_135) (L' := #[.val (.int p1), .val (.ref a), .val (.int (3 : Int32)), .val (.ref b3), .val (.int (0 : Int32)), .unset]) rfl ?_
    show Go p e below T39 (mkF m 137 #[.val (.int p1), .val (.ref a), .val (.int (3 : Int32)), .val (.ref b3), .val (.int (0 : Int32)), .unset] []) _
    refine Go.iload_n X39 hx (hb hby at_137) rfl ?_
    show Go p e below T39 (mkF m 138 #[.val (.int p1), .val (.ref a), .val (.int (3 : Int32)), .val (.ref b3), .val (.int (0 : Int32)), .unset] [(.int (3 : Int32))]) _
    refine Go.bipush X39 hx (hb hby at_138) ?_
    show Go p e below T39 (mkF m 140 #[.val (.int p1), .val (.ref a), .val (.int (3 : Int32)), .val (.ref b3), .val (.int (0 : Int32)), .unset] [(.int (7 : Int32)), (.int (3 : Int32))]) _
    refine Go.icmp X39 hx (hb hby at_140) (pc' := 155) (by decide) (ic_eq _ _) (fun c140 => ?_) (fun c140 => ?_)
    · exact absurd c140 (by decide)
    show Go p e below T39 (mkF m 143 #[.val (.int p1), .val (.ref a), .val (.int (3 : Int32)), .val (.ref b3), .val (.int (0 : Int32)), .unset] []) _
    refine Go.iload_n X39 hx (hb hby at_143) rfl ?_
    show Go p e below T39 (mkF m 144 #[.val (.int p1), .val (.ref a), .val (.int (3 : Int32)), .val (.ref b3), .val (.int (0 : Int32)), .unset] [(.int (3 : Int32))]) _
    refine Go.bipush X39 hx (hb hby at_144) ?_
    show Go p e below T39 (mkF m 146 #[.val (.int p1), .val (.ref a), .val (.int (3 : Int32)), .val (.ref b3), .val (.int (0 : Int32)), .unset] [(.int (8 : Int32)), (.int (3 : Int32))]) _
    refine Go.icmp X39 hx (hb hby at_146) (pc' := 155) (by decide) (ic_eq _ _) (fun c146 => ?_) (fun c146 => ?_)
    · exact absurd c146 (by decide)
    show Go p e below T39 (mkF m 149 #[.val (.int p1), .val (.ref a), .val (.int (3 : Int32)), .val (.ref b3), .val (.int (0 : Int32)), .unset] []) _
    refine Go.iload_n X39 hx (hb hby at_149) rfl ?_
    show Go p e below T39 (mkF m 150 #[.val (.int p1), .val (.ref a), .val (.int (3 : Int32)), .val (.ref b3), .val (.int (0 : Int32)), .unset] [(.int (3 : Int32))]) _
    refine Go.bipush X39 hx (hb hby at_150) ?_
    show Go p e below T39 (mkF m 152 #[.val (.int p1), .val (.ref a), .val (.int (3 : Int32)), .val (.ref b3), .val (.int (0 : Int32)), .unset] [(.int (9 : Int32)), (.int (3 : Int32))]) _
    refine Go.icmp X39 hx (hb hby at_152) (pc' := 159) (by decide) (ic_ne _ _) (fun c152 => ?_) (fun c152 => ?_)
    rotate_left
    · exact absurd (by decide) c152
    show Go p e below T39 (mkF m 159 #[.val (.int p1), .val (.ref a), .val (.int (3 : Int32)), .val (.ref b3), .val (.int (0 : Int32)), .unset] []) _
    refine Go.iconst X39 hx (hb hby at_159) ?_
    show Go p e below T39 (mkF m 160 #[.val (.int p1), .val (.ref a), .val (.int (3 : Int32)), .val (.ref b3), .val (.int (0 : Int32)), .unset] [(.int (0 : Int32))]) _
    refine Go.istore X39 hx (hb hby at_160) (L' := #[.val (.int p1), .val (.ref a), .val (.int (3 : Int32)), .val (.ref b3), .val (.int (0 : Int32)), .val (.int (0 : Int32))]) rfl ?_
    show Go p e below T39 (mkF m 162 #[.val (.int p1), .val (.ref a), .val (.int (3 : Int32)), .val (.ref b3), .val (.int (0 : Int32)), .val (.int (0 : Int32))] []) _
    refine Go.iload X39 hx (hb hby at_162) rfl ?_
    show Go p e below T39 (mkF m 164 #[.val (.int p1), .val (.ref a), .val (.int (3 : Int32)), .val (.ref b3), .val (.int (0 : Int32)), .val (.int (0 : Int32))] [(.int (0 : Int32))]) _
    refine Go.iload X39 hx (hb hby at_164) rfl ?_
    show Go p e below T39 (mkF m 166 #[.val (.int p1), .val (.ref a), .val (.int (3 : Int32)), .val (.ref b3), .val (.int (0 : Int32)), .val (.int (0 : Int32))] [(.int (0 : Int32)), (.int (0 : Int32))]) _
    refine Go.icmp X39 hx (hb hby at_166) (pc' := 188) (by decide) (ic_ne _ _) (fun c166 => ?_) (fun c166 => ?_)
    · exact absurd c166 (by decide)
    replace c166 := Decidable.not_not.mp c166
    show Go p e below T39 (mkF m 169 #[.val (.int p1), .val (.ref a), .val (.int (3 : Int32)), .val (.ref b3), .val (.int (0 : Int32)), .val (.int (0 : Int32))] []) _
    refine Go.iload X39 hx (hb hby at_169) rfl ?_
    show Go p e below T39 (mkF m 171 #[.val (.int p1), .val (.ref a), .val (.int (3 : Int32)), .val (.ref b3), .val (.int (0 : Int32)), .val (.int (0 : Int32))] [(.int (0 : Int32))]) _
    refine Go.ifc X39 hx (hb hby at_171) (pc' := 184) (by decide) (iz_eq _) (fun c171 => ?_) (fun c171 => ?_)
    rotate_left
    · exact absurd (by decide) c171
    show Go p e below T39 (mkF m 184 #[.val (.int p1), .val (.ref a), .val (.int (3 : Int32)), .val (.ref b3), .val (.int (0 : Int32)), .val (.int (0 : Int32))] []) _
    refine Go.iconst X39 hx (hb hby at_184) ?_
    show Go p e below T39 (mkF m 185 #[.val (.int p1), .val (.ref a), .val (.int (3 : Int32)), .val (.ref b3), .val (.int (0 : Int32)), .val (.int (0 : Int32))] [(.int (1 : Int32))]) _
    refine Go.goto X39 hx (hb hby at_185) (pc' := 189) (by decide) ?_
    show Go p e below T39 (mkF m 189 #[.val (.int p1), .val (.ref a), .val (.int (3 : Int32)), .val (.ref b3), .val (.int (0 : Int32)), .val (.int (0 : Int32))] [(.int (1 : Int32))]) _
    refine Go.ret_n X39 hx hret hlk (by simp) (hb hby at_189) (by decide) (by decide) ?_
    rw [e39]
    exact ⟨rfl, N39⟩
  · rw [hi]
    show Go p e below T35 (mkF m 126 #[.val (.int p1), .val (.ref a), .unset, .unset, .unset, .unset] [(.int (4 : Int32))]) _
    refine Go.istore_n X35 hx (hb hby at_126) (L' := #[.val (.int p1), .val (.ref a), .val (.int (4 : Int32)), .unset, .unset, .unset]) rfl ?_
    show Go p e below T35 (mkF m 127 #[.val (.int p1), .val (.ref a), .val (.int (4 : Int32)), .unset, .unset, .unset] []) _
    refine Go.aload_n X35 hx (hb hby at_127) rfl rfl ?_
    show Go p e below T35 (mkF m 128 #[.val (.int p1), .val (.ref a), .val (.int (4 : Int32)), .unset, .unset, .unset] [(.ref a)]) _
    refine Go.iload_n X35 hx (hb hby at_128) rfl ?_
    show Go p e below T35 (mkF m 129 #[.val (.int p1), .val (.ref a), .val (.int (4 : Int32)), .unset, .unset, .unset] [(.int (4 : Int32)), (.ref a)]) _
    refine Go.aaload X35 hx hZ e35 a_35 rfl (i := 4) rfl (by decide) rfl (hb hby at_129) ?_
    show Go p e below T35 (mkF m 130 #[.val (.int p1), .val (.ref a), .val (.int (4 : Int32)), .unset, .unset, .unset] [(.ref b4)]) _
    refine Go.astore_n X35 hx (hb hby at_130) rfl (L' := #[.val (.int p1), .val (.ref a), .val (.int (4 : Int32)), .val (.ref b4), .unset, .unset]) rfl ?_
    show Go p e below T35 (mkF m 131 #[.val (.int p1), .val (.ref a), .val (.int (4 : Int32)), .val (.ref b4), .unset, .unset] []) _
    refine Go.aload_n X35 hx (hb hby at_131) rfl rfl ?_
    show Go p e below T35 (mkF m 132 #[.val (.int p1), .val (.ref a), .val (.int (4 : Int32)), .val (.ref b4), .unset, .unset] [(.ref b4)]) _
    refine Go.callV X35 hx hZ hown (hwi hw 39 rfl) (hwi hw 40 rfl) (notFace_of_selects (args := #[]) (mvT hZ (hwi hw 42 rfl))) (hwi hw 42 rfl) (hwi hw 41 rfl) (hwi hw 43 rfl) (hwi hw 3 rfl) (by decide) e35 (Exa.ext O_35.2 Ea4) (argsL := []) (rmnp4 l Z a0 hw b0 b1 b2 b3 b4 b5 b6 b7 b8 b9 b10 b11 b12 b13 b14 b15 b16 bH h35 n0 Z35 O_35 ty) hml rfl (ps := []) (r := (some .boolean)) (by decide +kernel) rfl (rest := []) rfl (W := 0) (Nat.le_of_eq rfl) (by decide) (by decide) (by decide) (by decide) (hb hby at_132) ?_
    rintro _ T40 L40 X40 ⟨rfl, Nq40, e40⟩
    have N40 := Fr.app N35 Nq40
    show Go p e below T40 (mkF m 135 #[.val (.int p1), .val (.ref a), .val (.int (4 : Int32)), .val (.ref b4), .unset, .unset] [(.int (0 : Int32))]) _
    refine Go.istore X40 hx (hb hby at_135) (L' := #[.val (.int p1), .val (.ref a), .val (.int (4 : Int32)), .val (.ref b4), .val (.int (0 : Int32)), .unset]) rfl ?_
    show Go p e below T40 (mkF m 137 #[.val (.int p1), .val (.ref a), .val (.int (4 : Int32)), .val (.ref b4), .val (.int (0 : Int32)), .unset] []) _
    refine Go.iload_n X40 hx (hb hby at_137) rfl ?_
    show Go p e below T40 (mkF m 138 #[.val (.int p1), .val (.ref a), .val (.int (4 : Int32)), .val (.ref b4), .val (.int (0 : Int32)), .unset] [(.int (4 : Int32))]) _
    refine Go.bipush X40 hx (hb hby at_138) ?_
    show Go p e below T40 (mkF m 140 #[.val (.int p1), .val (.ref a), .val (.int (4 : Int32)), .val (.ref b4), .val (.int (0 : Int32)), .unset] [(.int (7 : Int32)), (.int (4 : Int32))]) _
    refine Go.icmp X40 hx (hb hby at_140) (pc' := 155) (by decide) (ic_eq _ _) (fun c140 => ?_) (fun c140 => ?_)
    · exact absurd c140 (by decide)
    show Go p e below T40 (mkF m 143 #[.val (.int p1), .val (.ref a), .val (.int (4 : Int32)), .val (.ref b4), .val (.int (0 : Int32)), .unset] []) _
    refine Go.iload_n X40 hx (hb hby at_143) rfl ?_
    show Go p e below T40 (mkF m 144 #[.val (.int p1), .val (.ref a), .val (.int (4 : Int32)), .val (.ref b4), .val (.int (0 : Int32)), .unset] [(.int (4 : Int32))]) _
    refine Go.bipush X40 hx (hb hby at_144) ?_
    show Go p e below T40 (mkF m 146 #[.val (.int p1), .val (.ref a), .val (.int (4 : Int32)), .val (.ref b4), .val (.int (0 : Int32)), .unset] [(.int (8 : Int32)), (.int (4 : Int32))]) _
    refine Go.icmp X40 hx (hb hby at_146) (pc' := 155) (by decide) (ic_eq _ _) (fun c146 => ?_) (fun c146 => ?_)
    · exact absurd c146 (by decide)
    show Go p e below T40 (mkF m 149 #[.val (.int p1), .val (.ref a), .val (.int (4 : Int32)), .val (.ref b4), .val (.int (0 : Int32)), .unset] []) _
    refine Go.iload_n X40 hx (hb hby at_149) rfl ?_
    show Go p e below T40 (mkF m 150 #[.val (.int p1), .val (.ref a), .val (.int (4 : Int32)), .val (.ref b4), .val (.int (0 : Int32)), .unset] [(.int (4 : Int32))]) _
    refine Go.bipush X40 hx (hb hby at_150) ?_
    show Go p e below T40 (mkF m 152 #[.val (.int p1), .val (.ref a), .val (.int (4 : Int32)), .val (.ref b4), .val (.int (0 : Int32)), .unset] [(.int (9 : Int32)), (.int (4 : Int32))]) _
    refine Go.icmp X40 hx (hb hby at_152) (pc' := 159) (by decide) (ic_ne _ _) (fun c152 => ?_) (fun c152 => ?_)
    rotate_left
    · exact absurd (by decide) c152
    show Go p e below T40 (mkF m 159 #[.val (.int p1), .val (.ref a), .val (.int (4 : Int32)), .val (.ref b4), .val (.int (0 : Int32)), .unset] []) _
    refine Go.iconst X40 hx (hb hby at_159) ?_
    show Go p e below T40 (mkF m 160 #[.val (.int p1), .val (.ref a), .val (.int (4 : Int32)), .val (.ref b4), .val (.int (0 : Int32)), .unset] [(.int (0 : Int32))]) _
    refine Go.istore X40 hx (hb hby at_160) (L' := #[.val (.int p1), .val (.ref a), .val (.int (4 : Int32)), .val (.ref b4), .val (.int (0 : Int32)), .val (.int (0 : Int32))]) rfl ?_
    show Go p e below T40 (mkF m 162 #[.val (.int p1), .val (.ref a), .val (.int (4 : Int32)), .val (.ref b4), .val (.int (0 : Int32)), .val (.int (0 : Int32))] []) _
    refine Go.iload X40 hx (hb hby at_162) rfl ?_
    show Go p e below T40 (mkF m 164 #[.val (.int p1), .val (.ref a), .val (.int (4 : Int32)), .val (.ref b4), .val (.int (0 : Int32)), .val (.int (0 : Int32))] [(.int (0 : Int32))]) _
    refine Go.iload X40 hx (hb hby at_164) rfl ?_
    show Go p e below T40 (mkF m 166 #[.val (.int p1), .val (.ref a), .val (.int (4 : Int32)), .val (.ref b4), .val (.int (0 : Int32)), .val (.int (0 : Int32))] [(.int (0 : Int32)), (.int (0 : Int32))]) _
    refine Go.icmp X40 hx (hb hby at_166) (pc' := 188) (by decide) (ic_ne _ _) (fun c166 => ?_) (fun c166 => ?_)
    · exact absurd c166 (by decide)
    replace c166 := Decidable.not_not.mp c166
    show Go p e below T40 (mkF m 169 #[.val (.int p1), .val (.ref a), .val (.int (4 : Int32)), .val (.ref b4), .val (.int (0 : Int32)), .val (.int (0 : Int32))] []) _
    refine Go.iload X40 hx (hb hby at_169) rfl ?_
    show Go p e below T40 (mkF m 171 #[.val (.int p1), .val (.ref a), .val (.int (4 : Int32)), .val (.ref b4), .val (.int (0 : Int32)), .val (.int (0 : Int32))] [(.int (0 : Int32))]) _
    refine Go.ifc X40 hx (hb hby at_171) (pc' := 184) (by decide) (iz_eq _) (fun c171 => ?_) (fun c171 => ?_)
    rotate_left
    · exact absurd (by decide) c171
    show Go p e below T40 (mkF m 184 #[.val (.int p1), .val (.ref a), .val (.int (4 : Int32)), .val (.ref b4), .val (.int (0 : Int32)), .val (.int (0 : Int32))] []) _
    refine Go.iconst X40 hx (hb hby at_184) ?_
    show Go p e below T40 (mkF m 185 #[.val (.int p1), .val (.ref a), .val (.int (4 : Int32)), .val (.ref b4), .val (.int (0 : Int32)), .val (.int (0 : Int32))] [(.int (1 : Int32))]) _
    refine Go.goto X40 hx (hb hby at_185) (pc' := 189) (by decide) ?_
    show Go p e below T40 (mkF m 189 #[.val (.int p1), .val (.ref a), .val (.int (4 : Int32)), .val (.ref b4), .val (.int (0 : Int32)), .val (.int (0 : Int32))] [(.int (1 : Int32))]) _
    refine Go.ret_n X40 hx hret hlk (by simp) (hb hby at_189) (by decide) (by decide) ?_
    rw [e40]
    exact ⟨rfl, N40⟩
  · rw [hi]
    show Go p e below T35 (mkF m 126 #[.val (.int p1), .val (.ref a), .unset, .unset, .unset, .unset] [(.int (5 : Int32))]) _
    refine Go.istore_n X35 hx (hb hby at_126) (L' := #[.val (.int p1), .val (.ref a), .val (.int (5 : Int32)), .unset, .unset, .unset]) rfl ?_
    show Go p e below T35 (mkF m 127 #[.val (.int p1), .val (.ref a), .val (.int (5 : Int32)), .unset, .unset, .unset] []) _
    refine Go.aload_n X35 hx (hb hby at_127) rfl rfl ?_
    show Go p e below T35 (mkF m 128 #[.val (.int p1), .val (.ref a), .val (.int (5 : Int32)), .unset, .unset, .unset] [(.ref a)]) _
    refine Go.iload_n X35 hx (hb hby at_128) rfl ?_
    show Go p e below T35 (mkF m 129 #[.val (.int p1), .val (.ref a), .val (.int (5 : Int32)), .unset, .unset, .unset] [(.int (5 : Int32)), (.ref a)]) _
    refine Go.aaload X35 hx hZ e35 a_35 rfl (i := 5) rfl (by decide) rfl (hb hby at_129) ?_
    show Go p e below T35 (mkF m 130 #[.val (.int p1), .val (.ref a), .val (.int (5 : Int32)), .unset, .unset, .unset] [(.ref b5)]) _
    refine Go.astore_n X35 hx (hb hby at_130) rfl (L' := #[.val (.int p1), .val (.ref a), .val (.int (5 : Int32)), .val (.ref b5), .unset, .unset]) rfl ?_
    show Go p e below T35 (mkF m 131 #[.val (.int p1), .val (.ref a), .val (.int (5 : Int32)), .val (.ref b5), .unset, .unset] []) _
    refine Go.aload_n X35 hx (hb hby at_131) rfl rfl ?_
    show Go p e below T35 (mkF m 132 #[.val (.int p1), .val (.ref a), .val (.int (5 : Int32)), .val (.ref b5), .unset, .unset] [(.ref b5)]) _
    refine Go.callV X35 hx hZ hown (hwi hw 39 rfl) (hwi hw 40 rfl) (notFace_of_selects (args := #[]) (mvT hZ (hwi hw 42 rfl))) (hwi hw 42 rfl) (hwi hw 41 rfl) (hwi hw 43 rfl) (hwi hw 3 rfl) (by decide) e35 (Exa.ext O_35.2 Ea5) (argsL := []) (rmnp5 l Z a0 hw b0 b1 b2 b3 b4 b5 b6 b7 b8 b9 b10 b11 b12 b13 b14 b15 b16 bH h35 n0 Z35 O_35 ty) hml rfl (ps := []) (r := (some .boolean)) (by decide +kernel) rfl (rest := []) rfl (W := 0) (Nat.le_of_eq rfl) (by decide) (by decide) (by decide) (by decide) (hb hby at_132) ?_
    rintro _ T41 L41 X41 ⟨rfl, Nq41, e41⟩
    have N41 := Fr.app N35 Nq41
    show Go p e below T41 (mkF m 135 #[.val (.int p1), .val (.ref a), .val (.int (5 : Int32)), .val (.ref b5), .unset, .unset] [(.int (0 : Int32))]) _
    refine Go.istore X41 hx (hb hby at_135) (L' := #[.val (.int p1), .val (.ref a), .val (.int (5 : Int32)), .val (.ref b5), .val (.int (0 : Int32)), .unset]) rfl ?_
    show Go p e below T41 (mkF m 137 #[.val (.int p1), .val (.ref a), .val (.int (5 : Int32)), .val (.ref b5), .val (.int (0 : Int32)), .unset] []) _
    refine Go.iload_n X41 hx (hb hby at_137) rfl ?_
    show Go p e below T41 (mkF m 138 #[.val (.int p1), .val (.ref a), .val (.int (5 : Int32)), .val (.ref b5), .val (.int (0 : Int32)), .unset] [(.int (5 : Int32))]) _
    refine Go.bipush X41 hx (hb hby at_138) ?_
    show Go p e below T41 (mkF m 140 #[.val (.int p1), .val (.ref a), .val (.int (5 : Int32)), .val (.ref b5), .val (.int (0 : Int32)), .unset] [(.int (7 : Int32)), (.int (5 : Int32))]) _
    refine Go.icmp X41 hx (hb hby at_140) (pc' := 155) (by decide) (ic_eq _ _) (fun c140 => ?_) (fun c140 => ?_)
    · exact absurd c140 (by decide)
    show Go p e below T41 (mkF m 143 #[.val (.int p1), .val (.ref a), .val (.int (5 : Int32)), .val (.ref b5), .val (.int (0 : Int32)), .unset] []) _
    refine Go.iload_n X41 hx (hb hby at_143) rfl ?_
    show Go p e below T41 (mkF m 144 #[.val (.int p1), .val (.ref a), .val (.int (5 : Int32)), .val (.ref b5), .val (.int (0 : Int32)), .unset] [(.int (5 : Int32))]) _
    refine Go.bipush X41 hx (hb hby at_144) ?_
    show Go p e below T41 (mkF m 146 #[.val (.int p1), .val (.ref a), .val (.int (5 : Int32)), .val (.ref b5), .val (.int (0 : Int32)), .unset] [(.int (8 : Int32)), (.int (5 : Int32))]) _
    refine Go.icmp X41 hx (hb hby at_146) (pc' := 155) (by decide) (ic_eq _ _) (fun c146 => ?_) (fun c146 => ?_)
    · exact absurd c146 (by decide)
    show Go p e below T41 (mkF m 149 #[.val (.int p1), .val (.ref a), .val (.int (5 : Int32)), .val (.ref b5), .val (.int (0 : Int32)), .unset] []) _
    refine Go.iload_n X41 hx (hb hby at_149) rfl ?_
    show Go p e below T41 (mkF m 150 #[.val (.int p1), .val (.ref a), .val (.int (5 : Int32)), .val (.ref b5), .val (.int (0 : Int32)), .unset] [(.int (5 : Int32))]) _
    refine Go.bipush X41 hx (hb hby at_150) ?_
    show Go p e below T41 (mkF m 152 #[.val (.int p1), .val (.ref a), .val (.int (5 : Int32)), .val (.ref b5), .val (.int (0 : Int32)), .unset] [(.int (9 : Int32)), (.int (5 : Int32))]) _
    refine Go.icmp X41 hx (hb hby at_152) (pc' := 159) (by decide) (ic_ne _ _) (fun c152 => ?_) (fun c152 => ?_)
    rotate_left
    · exact absurd (by decide) c152
    show Go p e below T41 (mkF m 159 #[.val (.int p1), .val (.ref a), .val (.int (5 : Int32)), .val (.ref b5), .val (.int (0 : Int32)), .unset] []) _
    refine Go.iconst X41 hx (hb hby at_159) ?_
    show Go p e below T41 (mkF m 160 #[.val (.int p1), .val (.ref a), .val (.int (5 : Int32)), .val (.ref b5), .val (.int (0 : Int32)), .unset] [(.int (0 : Int32))]) _
    refine Go.istore X41 hx (hb hby at_160) (L' := #[.val (.int p1), .val (.ref a), .val (.int (5 : Int32)), .val (.ref b5), .val (.int (0 : Int32)), .val (.int (0 : Int32))]) rfl ?_
    show Go p e below T41 (mkF m 162 #[.val (.int p1), .val (.ref a), .val (.int (5 : Int32)), .val (.ref b5), .val (.int (0 : Int32)), .val (.int (0 : Int32))] []) _
    refine Go.iload X41 hx (hb hby at_162) rfl ?_
    show Go p e below T41 (mkF m 164 #[.val (.int p1), .val (.ref a), .val (.int (5 : Int32)), .val (.ref b5), .val (.int (0 : Int32)), .val (.int (0 : Int32))] [(.int (0 : Int32))]) _
    refine Go.iload X41 hx (hb hby at_164) rfl ?_
    show Go p e below T41 (mkF m 166 #[.val (.int p1), .val (.ref a), .val (.int (5 : Int32)), .val (.ref b5), .val (.int (0 : Int32)), .val (.int (0 : Int32))] [(.int (0 : Int32)), (.int (0 : Int32))]) _
    refine Go.icmp X41 hx (hb hby at_166) (pc' := 188) (by decide) (ic_ne _ _) (fun c166 => ?_) (fun c166 => ?_)
    · exact absurd c166 (by decide)
    replace c166 := Decidable.not_not.mp c166
    show Go p e below T41 (mkF m 169 #[.val (.int p1), .val (.ref a), .val (.int (5 : Int32)), .val (.ref b5), .val (.int (0 : Int32)), .val (.int (0 : Int32))] []) _
    refine Go.iload X41 hx (hb hby at_169) rfl ?_
    show Go p e below T41 (mkF m 171 #[.val (.int p1), .val (.ref a), .val (.int (5 : Int32)), .val (.ref b5), .val (.int (0 : Int32)), .val (.int (0 : Int32))] [(.int (0 : Int32))]) _
    refine Go.ifc X41 hx (hb hby at_171) (pc' := 184) (by decide) (iz_eq _) (fun c171 => ?_) (fun c171 => ?_)
    rotate_left
    · exact absurd (by decide) c171
    show Go p e below T41 (mkF m 184 #[.val (.int p1), .val (.ref a), .val (.int (5 : Int32)), .val (.ref b5), .val (.int (0 : Int32)), .val (.int (0 : Int32))] []) _
    refine Go.iconst X41 hx (hb hby at_184) ?_
    show Go p e below T41 (mkF m 185 #[.val (.int p1), .val (.ref a), .val (.int (5 : Int32)), .val (.ref b5), .val (.int (0 : Int32)), .val (.int (0 : Int32))] [(.int (1 : Int32))]) _
    refine Go.goto X41 hx (hb hby at_185) (pc' := 189) (by decide) ?_
    show Go p e below T41 (mkF m 189 #[.val (.int p1), .val (.ref a), .val (.int (5 : Int32)), .val (.ref b5), .val (.int (0 : Int32)), .val (.int (0 : Int32))] [(.int (1 : Int32))]) _
    refine Go.ret_n X41 hx hret hlk (by simp) (hb hby at_189) (by decide) (by decide) ?_
    rw [e41]
    exact ⟨rfl, N41⟩
  · rw [hi]
    show Go p e below T35 (mkF m 126 #[.val (.int p1), .val (.ref a), .unset, .unset, .unset, .unset] [(.int (6 : Int32))]) _
    refine Go.istore_n X35 hx (hb hby at_126) (L' := #[.val (.int p1), .val (.ref a), .val (.int (6 : Int32)), .unset, .unset, .unset]) rfl ?_
    show Go p e below T35 (mkF m 127 #[.val (.int p1), .val (.ref a), .val (.int (6 : Int32)), .unset, .unset, .unset] []) _
    refine Go.aload_n X35 hx (hb hby at_127) rfl rfl ?_
    show Go p e below T35 (mkF m 128 #[.val (.int p1), .val (.ref a), .val (.int (6 : Int32)), .unset, .unset, .unset] [(.ref a)]) _
    refine Go.iload_n X35 hx (hb hby at_128) rfl ?_
    show Go p e below T35 (mkF m 129 #[.val (.int p1), .val (.ref a), .val (.int (6 : Int32)), .unset, .unset, .unset] [(.int (6 : Int32)), (.ref a)]) _
    refine Go.aaload X35 hx hZ e35 a_35 rfl (i := 6) rfl (by decide) rfl (hb hby at_129) ?_
    show Go p e below T35 (mkF m 130 #[.val (.int p1), .val (.ref a), .val (.int (6 : Int32)), .unset, .unset, .unset] [(.ref b6)]) _
    refine Go.astore_n X35 hx (hb hby at_130) rfl (L' := #[.val (.int p1), .val (.ref a), .val (.int (6 : Int32)), .val (.ref b6), .unset, .unset]) rfl ?_
    show Go p e below T35 (mkF m 131 #[.val (.int p1), .val (.ref a), .val (.int (6 : Int32)), .val (.ref b6), .unset, .unset] []) _
    refine Go.aload_n X35 hx (hb hby at_131) rfl rfl ?_
    show Go p e below T35 (mkF m 132 #[.val (.int p1), .val (.ref a), .val (.int (6 : Int32)), .val (.ref b6), .unset, .unset] [(.ref b6)]) _
    refine Go.callV X35 hx hZ hown (hwi hw 39 rfl) (hwi hw 40 rfl) (notFace_of_selects (args := #[]) (mvT hZ (hwi hw 42 rfl))) (hwi hw 42 rfl) (hwi hw 41 rfl) (hwi hw 43 rfl) (hwi hw 3 rfl) (by decide) e35 (Exa.ext O_35.2 Ea6) (argsL := []) (rmnp6 l Z a0 hw b0 b1 b2 b3 b4 b5 b6 b7 b8 b9 b10 b11 b12 b13 b14 b15 b16 bH h35 n0 Z35 O_35 ty) hml rfl (ps := []) (r := (some .boolean)) (by decide +kernel) rfl (rest := []) rfl (W := 0) (Nat.le_of_eq rfl) (by decide) (by decide) (by decide) (by decide) (hb hby at_132) ?_
    rintro _ T42 L42 X42 ⟨rfl, Nq42, e42⟩
    have N42 := Fr.app N35 Nq42
    show Go p e below T42 (mkF m 135 #[.val (.int p1), .val (.ref a), .val (.int (6 : Int32)), .val (.ref b6), .unset, .unset] [(.int (0 : Int32))]) _
    refine Go.istore X42 hx (hb hby at_135) (L' := #[.val (.int p1), .val (.ref a), .val (.int (6 : Int32)), .val (.ref b6), .val (.int (0 : Int32)), .unset]) rfl ?_
    show Go p e below T42 (mkF m 137 #[.val (.int p1), .val (.ref a), .val (.int (6 : Int32)), .val (.ref b6), .val (.int (0 : Int32)), .unset] []) _
    refine Go.iload_n X42 hx (hb hby at_137) rfl ?_
    show Go p e below T42 (mkF m 138 #[.val (.int p1), .val (.ref a), .val (.int (6 : Int32)), .val (.ref b6), .val (.int (0 : Int32)), .unset] [(.int (6 : Int32))]) _
    refine Go.bipush X42 hx (hb hby at_138) ?_
    show Go p e below T42 (mkF m 140 #[.val (.int p1), .val (.ref a), .val (.int (6 : Int32)), .val (.ref b6), .val (.int (0 : Int32)), .unset] [(.int (7 : Int32)), (.int (6 : Int32))]) _
    refine Go.icmp X42 hx (hb hby at_140) (pc' := 155) (by decide) (ic_eq _ _) (fun c140 => ?_) (fun c140 => ?_)
    · exact absurd c140 (by decide)
    show Go p e below T42 (mkF m 143 #[.val (.int p1), .val (.ref a), .val (.int (6 : Int32)), .val (.ref b6), .val (.int (0 : Int32)), .unset] []) _
    refine Go.iload_n X42 hx (hb hby at_143) rfl ?_
    show Go p e below T42 (mkF m 144 #[.val (.int p1), .val (.ref a), .val (.int (6 : Int32)), .val (.ref b6), .val (.int (0 : Int32)), .unset] [(.int (6 : Int32))]) _
    refine Go.bipush X42 hx (hb hby at_144) ?_
    show Go p e below T42 (mkF m 146 #[.val (.int p1), .val (.ref a), .val (.int (6 : Int32)), .val (.ref b6), .val (.int (0 : Int32)), .unset] [(.int (8 : Int32)), (.int (6 : Int32))]) _
    refine Go.icmp X42 hx (hb hby at_146) (pc' := 155) (by decide) (ic_eq _ _) (fun c146 => ?_) (fun c146 => ?_)
    · exact absurd c146 (by decide)
    show Go p e below T42 (mkF m 149 #[.val (.int p1), .val (.ref a), .val (.int (6 : Int32)), .val (.ref b6), .val (.int (0 : Int32)), .unset] []) _
    refine Go.iload_n X42 hx (hb hby at_149) rfl ?_
    show Go p e below T42 (mkF m 150 #[.val (.int p1), .val (.ref a), .val (.int (6 : Int32)), .val (.ref b6), .val (.int (0 : Int32)), .unset] [(.int (6 : Int32))]) _
    refine Go.bipush X42 hx (hb hby at_150) ?_
    show Go p e below T42 (mkF m 152 #[.val (.int p1), .val (.ref a), .val (.int (6 : Int32)), .val (.ref b6), .val (.int (0 : Int32)), .unset] [(.int (9 : Int32)), (.int (6 : Int32))]) _
    refine Go.icmp X42 hx (hb hby at_152) (pc' := 159) (by decide) (ic_ne _ _) (fun c152 => ?_) (fun c152 => ?_)
    rotate_left
    · exact absurd (by decide) c152
    show Go p e below T42 (mkF m 159 #[.val (.int p1), .val (.ref a), .val (.int (6 : Int32)), .val (.ref b6), .val (.int (0 : Int32)), .unset] []) _
    refine Go.iconst X42 hx (hb hby at_159) ?_
    show Go p e below T42 (mkF m 160 #[.val (.int p1), .val (.ref a), .val (.int (6 : Int32)), .val (.ref b6), .val (.int (0 : Int32)), .unset] [(.int (0 : Int32))]) _
    refine Go.istore X42 hx (hb hby at_160) (L' := #[.val (.int p1), .val (.ref a), .val (.int (6 : Int32)), .val (.ref b6), .val (.int (0 : Int32)), .val (.int (0 : Int32))]) rfl ?_
    show Go p e below T42 (mkF m 162 #[.val (.int p1), .val (.ref a), .val (.int (6 : Int32)), .val (.ref b6), .val (.int (0 : Int32)), .val (.int (0 : Int32))] []) _
    refine Go.iload X42 hx (hb hby at_162) rfl ?_
    show Go p e below T42 (mkF m 164 #[.val (.int p1), .val (.ref a), .val (.int (6 : Int32)), .val (.ref b6), .val (.int (0 : Int32)), .val (.int (0 : Int32))] [(.int (0 : Int32))]) _
    refine Go.iload X42 hx (hb hby at_164) rfl ?_
    show Go p e below T42 (mkF m 166 #[.val (.int p1), .val (.ref a), .val (.int (6 : Int32)), .val (.ref b6), .val (.int (0 : Int32)), .val (.int (0 : Int32))] [(.int (0 : Int32)), (.int (0 : Int32))]) _
    refine Go.icmp X42 hx (hb hby at_166) (pc' := 188) (by decide) (ic_ne _ _) (fun c166 => ?_) (fun c166 => ?_)
    · exact absurd c166 (by decide)
    replace c166 := Decidable.not_not.mp c166
    show Go p e below T42 (mkF m 169 #[.val (.int p1), .val (.ref a), .val (.int (6 : Int32)), .val (.ref b6), .val (.int (0 : Int32)), .val (.int (0 : Int32))] []) _
    refine Go.iload X42 hx (hb hby at_169) rfl ?_
    show Go p e below T42 (mkF m 171 #[.val (.int p1), .val (.ref a), .val (.int (6 : Int32)), .val (.ref b6), .val (.int (0 : Int32)), .val (.int (0 : Int32))] [(.int (0 : Int32))]) _
    refine Go.ifc X42 hx (hb hby at_171) (pc' := 184) (by decide) (iz_eq _) (fun c171 => ?_) (fun c171 => ?_)
    rotate_left
    · exact absurd (by decide) c171
    show Go p e below T42 (mkF m 184 #[.val (.int p1), .val (.ref a), .val (.int (6 : Int32)), .val (.ref b6), .val (.int (0 : Int32)), .val (.int (0 : Int32))] []) _
    refine Go.iconst X42 hx (hb hby at_184) ?_
    show Go p e below T42 (mkF m 185 #[.val (.int p1), .val (.ref a), .val (.int (6 : Int32)), .val (.ref b6), .val (.int (0 : Int32)), .val (.int (0 : Int32))] [(.int (1 : Int32))]) _
    refine Go.goto X42 hx (hb hby at_185) (pc' := 189) (by decide) ?_
    show Go p e below T42 (mkF m 189 #[.val (.int p1), .val (.ref a), .val (.int (6 : Int32)), .val (.ref b6), .val (.int (0 : Int32)), .val (.int (0 : Int32))] [(.int (1 : Int32))]) _
    refine Go.ret_n X42 hx hret hlk (by simp) (hb hby at_189) (by decide) (by decide) ?_
    rw [e42]
    exact ⟨rfl, N42⟩
  · rw [hi]
    show Go p e below T35 (mkF m 126 #[.val (.int p1), .val (.ref a), .unset, .unset, .unset, .unset] [(.int (7 : Int32))]) _
    refine Go.istore_n X35 hx (hb hby at_126) (L' := #[.val (.int p1), .val (.ref a), .val (.int (7 : Int32)), .unset, .unset, .unset]) rfl ?_
    show Go p e below T35 (mkF m 127 #[.val (.int p1), .val (.ref a), .val (.int (7 : Int32)), .unset, .unset, .unset] []) _
    refine Go.aload_n X35 hx (hb hby at_127) rfl rfl ?_
    show Go p e below T35 (mkF m 128 #[.val (.int p1), .val (.ref a), .val (.int (7 : Int32)), .unset, .unset, .unset] [(.ref a)]) _
    refine Go.iload_n X35 hx (hb hby at_128) rfl ?_
    show Go p e below T35 (mkF m 129 #[.val (.int p1), .val (.ref a), .val (.int (7 : Int32)), .unset, .unset, .unset] [(.int (7 : Int32)), (.ref a)]) _
    refine Go.aaload X35 hx hZ e35 a_35 rfl (i := 7) rfl (by decide) rfl (hb hby at_129) ?_
    show Go p e below T35 (mkF m 130 #[.val (.int p1), .val (.ref a), .val (.int (7 : Int32)), .unset, .unset, .unset] [(.ref b7)]) _
    refine Go.astore_n X35 hx (hb hby at_130) rfl (L' := #[.val (.int p1), .val (.ref a), .val (.int (7 : Int32)), .val (.ref b7), .unset, .unset]) rfl ?_
    show Go p e below T35 (mkF m 131 #[.val (.int p1), .val (.ref a), .val (.int (7 : Int32)), .val (.ref b7), .unset, .unset] []) _
    refine Go.aload_n X35 hx (hb hby at_131) rfl rfl ?_
    show Go p e below T35 (mkF m 132 #[.val (.int p1), .val (.ref a), .val (.int (7 : Int32)), .val (.ref b7), .unset, .unset] [(.ref b7)]) _
    refine Go.callV X35 hx hZ hown (hwi hw 39 rfl) (hwi hw 40 rfl) (notFace_of_selects (args := #[]) (mvT hZ (hwi hw 42 rfl))) (hwi hw 42 rfl) (hwi hw 41 rfl) (hwi hw 43 rfl) (hwi hw 3 rfl) (by decide) e35 (Exa.ext O_35.2 Ea7) (argsL := []) (rmnp7 l Z a0 hw b0 b1 b2 b3 b4 b5 b6 b7 b8 b9 b10 b11 b12 b13 b14 b15 b16 bH h35 n0 Z35 O_35 ty) hml rfl (ps := []) (r := (some .boolean)) (by decide +kernel) rfl (rest := []) rfl (W := 0) (Nat.le_of_eq rfl) (by decide) (by decide) (by decide) (by decide) (hb hby at_132) ?_
    rintro _ T43 L43 X43 ⟨rfl, Nq43, e43⟩
    have N43 := Fr.app N35 Nq43
    show Go p e below T43 (mkF m 135 #[.val (.int p1), .val (.ref a), .val (.int (7 : Int32)), .val (.ref b7), .unset, .unset] [(.int (1 : Int32))]) _
    refine Go.istore X43 hx (hb hby at_135) (L' := #[.val (.int p1), .val (.ref a), .val (.int (7 : Int32)), .val (.ref b7), .val (.int (1 : Int32)), .unset]) rfl ?_
    show Go p e below T43 (mkF m 137 #[.val (.int p1), .val (.ref a), .val (.int (7 : Int32)), .val (.ref b7), .val (.int (1 : Int32)), .unset] []) _
    refine Go.iload_n X43 hx (hb hby at_137) rfl ?_
    show Go p e below T43 (mkF m 138 #[.val (.int p1), .val (.ref a), .val (.int (7 : Int32)), .val (.ref b7), .val (.int (1 : Int32)), .unset] [(.int (7 : Int32))]) _
    refine Go.bipush X43 hx (hb hby at_138) ?_
    show Go p e below T43 (mkF m 140 #[.val (.int p1), .val (.ref a), .val (.int (7 : Int32)), .val (.ref b7), .val (.int (1 : Int32)), .unset] [(.int (7 : Int32)), (.int (7 : Int32))]) _
    refine Go.icmp X43 hx (hb hby at_140) (pc' := 155) (by decide) (ic_eq _ _) (fun c140 => ?_) (fun c140 => ?_)
    rotate_left
    · exact absurd (by decide) c140
    show Go p e below T43 (mkF m 155 #[.val (.int p1), .val (.ref a), .val (.int (7 : Int32)), .val (.ref b7), .val (.int (1 : Int32)), .unset] []) _
    refine Go.iconst X43 hx (hb hby at_155) ?_
    show Go p e below T43 (mkF m 156 #[.val (.int p1), .val (.ref a), .val (.int (7 : Int32)), .val (.ref b7), .val (.int (1 : Int32)), .unset] [(.int (1 : Int32))]) _
    refine Go.goto X43 hx (hb hby at_156) (pc' := 160) (by decide) ?_
    show Go p e below T43 (mkF m 160 #[.val (.int p1), .val (.ref a), .val (.int (7 : Int32)), .val (.ref b7), .val (.int (1 : Int32)), .unset] [(.int (1 : Int32))]) _
    refine Go.istore X43 hx (hb hby at_160) (L' := #[.val (.int p1), .val (.ref a), .val (.int (7 : Int32)), .val (.ref b7), .val (.int (1 : Int32)), .val (.int (1 : Int32))]) rfl ?_
    show Go p e below T43 (mkF m 162 #[.val (.int p1), .val (.ref a), .val (.int (7 : Int32)), .val (.ref b7), .val (.int (1 : Int32)), .val (.int (1 : Int32))] []) _
    refine Go.iload X43 hx (hb hby at_162) rfl ?_
    show Go p e below T43 (mkF m 164 #[.val (.int p1), .val (.ref a), .val (.int (7 : Int32)), .val (.ref b7), .val (.int (1 : Int32)), .val (.int (1 : Int32))] [(.int (1 : Int32))]) _
    refine Go.iload X43 hx (hb hby at_164) rfl ?_
    show Go p e below T43 (mkF m 166 #[.val (.int p1), .val (.ref a), .val (.int (7 : Int32)), .val (.ref b7), .val (.int (1 : Int32)), .val (.int (1 : Int32))] [(.int (1 : Int32)), (.int (1 : Int32))]) _
    refine Go.icmp X43 hx (hb hby at_166) (pc' := 188) (by decide) (ic_ne _ _) (fun c166 => ?_) (fun c166 => ?_)
    · exact absurd c166 (by decide)
    replace c166 := Decidable.not_not.mp c166
    show Go p e below T43 (mkF m 169 #[.val (.int p1), .val (.ref a), .val (.int (7 : Int32)), .val (.ref b7), .val (.int (1 : Int32)), .val (.int (1 : Int32))] []) _
    refine Go.iload X43 hx (hb hby at_169) rfl ?_
    show Go p e below T43 (mkF m 171 #[.val (.int p1), .val (.ref a), .val (.int (7 : Int32)), .val (.ref b7), .val (.int (1 : Int32)), .val (.int (1 : Int32))] [(.int (1 : Int32))]) _
    refine Go.ifc X43 hx (hb hby at_171) (pc' := 184) (by decide) (iz_eq _) (fun c171 => ?_) (fun c171 => ?_)
    · exact absurd c171 (by decide)
    show Go p e below T43 (mkF m 174 #[.val (.int p1), .val (.ref a), .val (.int (7 : Int32)), .val (.ref b7), .val (.int (1 : Int32)), .val (.int (1 : Int32))] []) _
    refine Go.aload_n X43 hx (hb hby at_174) rfl rfl ?_
    show Go p e below T43 (mkF m 175 #[.val (.int p1), .val (.ref a), .val (.int (7 : Int32)), .val (.ref b7), .val (.int (1 : Int32)), .val (.int (1 : Int32))] [(.ref b7)]) _
    refine Go.callV X43 hx hZ hown (hwi hw 47 rfl) (hwi hw 48 rfl) (notFace_of_selects (args := #[]) (mvT hZ (hwi hw 50 rfl))) (hwi hw 50 rfl) (hwi hw 49 rfl) (hwi hw 51 rfl) (hwi hw 3 rfl) (by decide) e43 (Exa.ext O_35.2 Ea7) (argsL := []) (rmkd7 l Z a0 hw b0 b1 b2 b3 b4 b5 b6 b7 b8 b9 b10 b11 b12 b13 b14 b15 b16 bH h35 n0 Z35 O_35 ty) hml rfl (ps := []) (r := (some (.object "com/example/fylgja/fylgja/ResourceKind"))) (by decide +kernel) rfl (rest := []) rfl (W := 0) (Nat.le_of_eq rfl) (by decide) (by decide) (by decide) (by decide) (hb hby at_175) ?_
    rintro _ T44 L44 X44 ⟨rfl, Nq44, e44⟩
    have N44 := Fr.app N43 Nq44
    show Go p e below T44 (mkF m 178 #[.val (.int p1), .val (.ref a), .val (.int (7 : Int32)), .val (.ref b7), .val (.int (1 : Int32)), .val (.int (1 : Int32))] [(.ref bH)]) _
    refine Go.getS X44 hx hZ hown (hwi hw 56 rfl) e44 (Sta.ext O_35.2 SH) (hb hby at_178) ?_
    intro T45 X45 e45
    show Go p e below T45 (mkF m 181 #[.val (.int p1), .val (.ref a), .val (.int (7 : Int32)), .val (.ref b7), .val (.int (1 : Int32)), .val (.int (1 : Int32))] [(.ref bH), (.ref bH)]) _
    refine Go.acmp X45 hx (hb hby at_181) (pc' := 188) (by decide) rfl rfl (ac_ne _ _) (fun c181 => ?_) (fun c181 => ?_)
    · exact absurd rfl c181
    replace c181 := Decidable.not_not.mp c181
    show Go p e below T45 (mkF m 184 #[.val (.int p1), .val (.ref a), .val (.int (7 : Int32)), .val (.ref b7), .val (.int (1 : Int32)), .val (.int (1 : Int32))] []) _
    refine Go.iconst X45 hx (hb hby at_184) ?_
    show Go p e below T45 (mkF m 185 #[.val (.int p1), .val (.ref a), .val (.int (7 : Int32)), .val (.ref b7), .val (.int (1 : Int32)), .val (.int (1 : Int32))] [(.int (1 : Int32))]) _
    refine Go.goto X45 hx (hb hby at_185) (pc' := 189) (by decide) ?_
    show Go p e below T45 (mkF m 189 #[.val (.int p1), .val (.ref a), .val (.int (7 : Int32)), .val (.ref b7), .val (.int (1 : Int32)), .val (.int (1 : Int32))] [(.int (1 : Int32))]) _
    refine Go.ret_n X45 hx hret hlk (by simp) (hb hby at_189) (by decide) (by decide) ?_
    rw [e45]
    exact ⟨rfl, N44⟩
  · rw [hi]
    show Go p e below T35 (mkF m 126 #[.val (.int p1), .val (.ref a), .unset, .unset, .unset, .unset] [(.int (8 : Int32))]) _
    refine Go.istore_n X35 hx (hb hby at_126) (L' := #[.val (.int p1), .val (.ref a), .val (.int (8 : Int32)), .unset, .unset, .unset]) rfl ?_
    show Go p e below T35 (mkF m 127 #[.val (.int p1), .val (.ref a), .val (.int (8 : Int32)), .unset, .unset, .unset] []) _
    refine Go.aload_n X35 hx (hb hby at_127) rfl rfl ?_
    show Go p e below T35 (mkF m 128 #[.val (.int p1), .val (.ref a), .val (.int (8 : Int32)), .unset, .unset, .unset] [(.ref a)]) _
    refine Go.iload_n X35 hx (hb hby at_128) rfl ?_
    show Go p e below T35 (mkF m 129 #[.val (.int p1), .val (.ref a), .val (.int (8 : Int32)), .unset, .unset, .unset] [(.int (8 : Int32)), (.ref a)]) _
    refine Go.aaload X35 hx hZ e35 a_35 rfl (i := 8) rfl (by decide) rfl (hb hby at_129) ?_
    show Go p e below T35 (mkF m 130 #[.val (.int p1), .val (.ref a), .val (.int (8 : Int32)), .unset, .unset, .unset] [(.ref b8)]) _
    refine Go.astore_n X35 hx (hb hby at_130) rfl (L' := #[.val (.int p1), .val (.ref a), .val (.int (8 : Int32)), .val (.ref b8), .unset, .unset]) rfl ?_
    show Go p e below T35 (mkF m 131 #[.val (.int p1), .val (.ref a), .val (.int (8 : Int32)), .val (.ref b8), .unset, .unset] []) _
    refine Go.aload_n X35 hx (hb hby at_131) rfl rfl ?_
    show Go p e below T35 (mkF m 132 #[.val (.int p1), .val (.ref a), .val (.int (8 : Int32)), .val (.ref b8), .unset, .unset] [(.ref b8)]) _
    refine Go.callV X35 hx hZ hown (hwi hw 39 rfl) (hwi hw 40 rfl) (notFace_of_selects (args := #[]) (mvT hZ (hwi hw 42 rfl))) (hwi hw 42 rfl) (hwi hw 41 rfl) (hwi hw 43 rfl) (hwi hw 3 rfl) (by decide) e35 (Exa.ext O_35.2 Ea8) (argsL := []) (rmnp8 l Z a0 hw b0 b1 b2 b3 b4 b5 b6 b7 b8 b9 b10 b11 b12 b13 b14 b15 b16 bH h35 n0 Z35 O_35 ty) hml rfl (ps := []) (r := (some .boolean)) (by decide +kernel) rfl (rest := []) rfl (W := 0) (Nat.le_of_eq rfl) (by decide) (by decide) (by decide) (by decide) (hb hby at_132) ?_
    rintro _ T46 L46 X46 ⟨rfl, Nq46, e46⟩
    have N46 := Fr.app N35 Nq46
    show Go p e below T46 (mkF m 135 #[.val (.int p1), .val (.ref a), .val (.int (8 : Int32)), .val (.ref b8), .unset, .unset] [(.int (1 : Int32))]) _
    refine Go.istore X46 hx (hb hby at_135) (L' := #[.val (.int p1), .val (.ref a), .val (.int (8 : Int32)), .val (.ref b8), .val (.int (1 : Int32)), .unset]) rfl ?_
    show Go p e below T46 (mkF m 137 #[.val (.int p1), .val (.ref a), .val (.int (8 : Int32)), .val (.ref b8), .val (.int (1 : Int32)), .unset] []) _
    refine Go.iload_n X46 hx (hb hby at_137) rfl ?_
    show Go p e below T46 (mkF m 138 #[.val (.int p1), .val (.ref a), .val (.int (8 : Int32)), .val (.ref b8), .val (.int (1 : Int32)), .unset] [(.int (8 : Int32))]) _
    refine Go.bipush X46 hx (hb hby at_138) ?_
    show Go p e below T46 (mkF m 140 #[.val (.int p1), .val (.ref a), .val (.int (8 : Int32)), .val (.ref b8), .val (.int (1 : Int32)), .unset] [(.int (7 : Int32)), (.int (8 : Int32))]) _
    refine Go.icmp X46 hx (hb hby at_140) (pc' := 155) (by decide) (ic_eq _ _) (fun c140 => ?_) (fun c140 => ?_)
    · exact absurd c140 (by decide)
    show Go p e below T46 (mkF m 143 #[.val (.int p1), .val (.ref a), .val (.int (8 : Int32)), .val (.ref b8), .val (.int (1 : Int32)), .unset] []) _
    refine Go.iload_n X46 hx (hb hby at_143) rfl ?_
    show Go p e below T46 (mkF m 144 #[.val (.int p1), .val (.ref a), .val (.int (8 : Int32)), .val (.ref b8), .val (.int (1 : Int32)), .unset] [(.int (8 : Int32))]) _
    refine Go.bipush X46 hx (hb hby at_144) ?_
    show Go p e below T46 (mkF m 146 #[.val (.int p1), .val (.ref a), .val (.int (8 : Int32)), .val (.ref b8), .val (.int (1 : Int32)), .unset] [(.int (8 : Int32)), (.int (8 : Int32))]) _
    refine Go.icmp X46 hx (hb hby at_146) (pc' := 155) (by decide) (ic_eq _ _) (fun c146 => ?_) (fun c146 => ?_)
    rotate_left
    · exact absurd (by decide) c146
    show Go p e below T46 (mkF m 155 #[.val (.int p1), .val (.ref a), .val (.int (8 : Int32)), .val (.ref b8), .val (.int (1 : Int32)), .unset] []) _
    refine Go.iconst X46 hx (hb hby at_155) ?_
    show Go p e below T46 (mkF m 156 #[.val (.int p1), .val (.ref a), .val (.int (8 : Int32)), .val (.ref b8), .val (.int (1 : Int32)), .unset] [(.int (1 : Int32))]) _
    refine Go.goto X46 hx (hb hby at_156) (pc' := 160) (by decide) ?_
    show Go p e below T46 (mkF m 160 #[.val (.int p1), .val (.ref a), .val (.int (8 : Int32)), .val (.ref b8), .val (.int (1 : Int32)), .unset] [(.int (1 : Int32))]) _
    refine Go.istore X46 hx (hb hby at_160) (L' := #[.val (.int p1), .val (.ref a), .val (.int (8 : Int32)), .val (.ref b8), .val (.int (1 : Int32)), .val (.int (1 : Int32))]) rfl ?_
    show Go p e below T46 (mkF m 162 #[.val (.int p1), .val (.ref a), .val (.int (8 : Int32)), .val (.ref b8), .val (.int (1 : Int32)), .val (.int (1 : Int32))] []) _
    refine Go.iload X46 hx (hb hby at_162) rfl ?_
    show Go p e below T46 (mkF m 164 #[.val (.int p1), .val (.ref a), .val (.int (8 : Int32)), .val (.ref b8), .val (.int (1 : Int32)), .val (.int (1 : Int32))] [(.int (1 : Int32))]) _
    refine Go.iload X46 hx (hb hby at_164) rfl ?_
    show Go p e below T46 (mkF m 166 #[.val (.int p1), .val (.ref a), .val (.int (8 : Int32)), .val (.ref b8), .val (.int (1 : Int32)), .val (.int (1 : Int32))] [(.int (1 : Int32)), (.int (1 : Int32))]) _
    refine Go.icmp X46 hx (hb hby at_166) (pc' := 188) (by decide) (ic_ne _ _) (fun c166 => ?_) (fun c166 => ?_)
    · exact absurd c166 (by decide)
    replace c166 := Decidable.not_not.mp c166
    show Go p e below T46 (mkF m 169 #[.val (.int p1), .val (.ref a), .val (.int (8 : Int32)), .val (.ref b8), .val (.int (1 : Int32)), .val (.int (1 : Int32))] []) _
    refine Go.iload X46 hx (hb hby at_169) rfl ?_
    show Go p e below T46 (mkF m 171 #[.val (.int p1), .val (.ref a), .val (.int (8 : Int32)), .val (.ref b8), .val (.int (1 : Int32)), .val (.int (1 : Int32))] [(.int (1 : Int32))]) _
    refine Go.ifc X46 hx (hb hby at_171) (pc' := 184) (by decide) (iz_eq _) (fun c171 => ?_) (fun c171 => ?_)
    · exact absurd c171 (by decide)
    show Go p e below T46 (mkF m 174 #[.val (.int p1), .val (.ref a), .val (.int (8 : Int32)), .val (.ref b8), .val (.int (1 : Int32)), .val (.int (1 : Int32))] []) _
    refine Go.aload_n X46 hx (hb hby at_174) rfl rfl ?_
    show Go p e below T46 (mkF m 175 #[.val (.int p1), .val (.ref a), .val (.int (8 : Int32)), .val (.ref b8), .val (.int (1 : Int32)), .val (.int (1 : Int32))] [(.ref b8)]) _
    refine Go.callV X46 hx hZ hown (hwi hw 47 rfl) (hwi hw 48 rfl) (notFace_of_selects (args := #[]) (mvT hZ (hwi hw 50 rfl))) (hwi hw 50 rfl) (hwi hw 49 rfl) (hwi hw 51 rfl) (hwi hw 3 rfl) (by decide) e46 (Exa.ext O_35.2 Ea8) (argsL := []) (rmkd8 l Z a0 hw b0 b1 b2 b3 b4 b5 b6 b7 b8 b9 b10 b11 b12 b13 b14 b15 b16 bH h35 n0 Z35 O_35 ty) hml rfl (ps := []) (r := (some (.object "com/example/fylgja/fylgja/ResourceKind"))) (by decide +kernel) rfl (rest := []) rfl (W := 0) (Nat.le_of_eq rfl) (by decide) (by decide) (by decide) (by decide) (hb hby at_175) ?_
    rintro _ T47 L47 X47 ⟨rfl, Nq47, e47⟩
    have N47 := Fr.app N46 Nq47
    show Go p e below T47 (mkF m 178 #[.val (.int p1), .val (.ref a), .val (.int (8 : Int32)), .val (.ref b8), .val (.int (1 : Int32)), .val (.int (1 : Int32))] [(.ref bH)]) _
    refine Go.getS X47 hx hZ hown (hwi hw 56 rfl) e47 (Sta.ext O_35.2 SH) (hb hby at_178) ?_
    intro T48 X48 e48
    show Go p e below T48 (mkF m 181 #[.val (.int p1), .val (.ref a), .val (.int (8 : Int32)), .val (.ref b8), .val (.int (1 : Int32)), .val (.int (1 : Int32))] [(.ref bH), (.ref bH)]) _
    refine Go.acmp X48 hx (hb hby at_181) (pc' := 188) (by decide) rfl rfl (ac_ne _ _) (fun c181 => ?_) (fun c181 => ?_)
    · exact absurd rfl c181
    replace c181 := Decidable.not_not.mp c181
    show Go p e below T48 (mkF m 184 #[.val (.int p1), .val (.ref a), .val (.int (8 : Int32)), .val (.ref b8), .val (.int (1 : Int32)), .val (.int (1 : Int32))] []) _
    refine Go.iconst X48 hx (hb hby at_184) ?_
    show Go p e below T48 (mkF m 185 #[.val (.int p1), .val (.ref a), .val (.int (8 : Int32)), .val (.ref b8), .val (.int (1 : Int32)), .val (.int (1 : Int32))] [(.int (1 : Int32))]) _
    refine Go.goto X48 hx (hb hby at_185) (pc' := 189) (by decide) ?_
    show Go p e below T48 (mkF m 189 #[.val (.int p1), .val (.ref a), .val (.int (8 : Int32)), .val (.ref b8), .val (.int (1 : Int32)), .val (.int (1 : Int32))] [(.int (1 : Int32))]) _
    refine Go.ret_n X48 hx hret hlk (by simp) (hb hby at_189) (by decide) (by decide) ?_
    rw [e48]
    exact ⟨rfl, N47⟩
  · rw [hi]
    show Go p e below T35 (mkF m 126 #[.val (.int p1), .val (.ref a), .unset, .unset, .unset, .unset] [(.int (9 : Int32))]) _
    refine Go.istore_n X35 hx (hb hby at_126) (L' := #[.val (.int p1), .val (.ref a), .val (.int (9 : Int32)), .unset, .unset, .unset]) rfl ?_
    show Go p e below T35 (mkF m 127 #[.val (.int p1), .val (.ref a), .val (.int (9 : Int32)), .unset, .unset, .unset] []) _
    refine Go.aload_n X35 hx (hb hby at_127) rfl rfl ?_
    show Go p e below T35 (mkF m 128 #[.val (.int p1), .val (.ref a), .val (.int (9 : Int32)), .unset, .unset, .unset] [(.ref a)]) _
    refine Go.iload_n X35 hx (hb hby at_128) rfl ?_
    show Go p e below T35 (mkF m 129 #[.val (.int p1), .val (.ref a), .val (.int (9 : Int32)), .unset, .unset, .unset] [(.int (9 : Int32)), (.ref a)]) _
    refine Go.aaload X35 hx hZ e35 a_35 rfl (i := 9) rfl (by decide) rfl (hb hby at_129) ?_
    show Go p e below T35 (mkF m 130 #[.val (.int p1), .val (.ref a), .val (.int (9 : Int32)), .unset, .unset, .unset] [(.ref b9)]) _
    refine Go.astore_n X35 hx (hb hby at_130) rfl (L' := #[.val (.int p1), .val (.ref a), .val (.int (9 : Int32)), .val (.ref b9), .unset, .unset]) rfl ?_
    show Go p e below T35 (mkF m 131 #[.val (.int p1), .val (.ref a), .val (.int (9 : Int32)), .val (.ref b9), .unset, .unset] []) _
    refine Go.aload_n X35 hx (hb hby at_131) rfl rfl ?_
    show Go p e below T35 (mkF m 132 #[.val (.int p1), .val (.ref a), .val (.int (9 : Int32)), .val (.ref b9), .unset, .unset] [(.ref b9)]) _
    refine Go.callV X35 hx hZ hown (hwi hw 39 rfl) (hwi hw 40 rfl) (notFace_of_selects (args := #[]) (mvT hZ (hwi hw 42 rfl))) (hwi hw 42 rfl) (hwi hw 41 rfl) (hwi hw 43 rfl) (hwi hw 3 rfl) (by decide) e35 (Exa.ext O_35.2 Ea9) (argsL := []) (rmnp9 l Z a0 hw b0 b1 b2 b3 b4 b5 b6 b7 b8 b9 b10 b11 b12 b13 b14 b15 b16 bH h35 n0 Z35 O_35 ty) hml rfl (ps := []) (r := (some .boolean)) (by decide +kernel) rfl (rest := []) rfl (W := 0) (Nat.le_of_eq rfl) (by decide) (by decide) (by decide) (by decide) (hb hby at_132) ?_
    rintro _ T49 L49 X49 ⟨rfl, Nq49, e49⟩
    have N49 := Fr.app N35 Nq49
    show Go p e below T49 (mkF m 135 #[.val (.int p1), .val (.ref a), .val (.int (9 : Int32)), .val (.ref b9), .unset, .unset] [(.int (1 : Int32))]) _
    refine Go.istore X49 hx (hb hby at_135) (L' := #[.val (.int p1), .val (.ref a), .val (.int (9 : Int32)), .val (.ref b9), .val (.int (1 : Int32)), .unset]) rfl ?_
    show Go p e below T49 (mkF m 137 #[.val (.int p1), .val (.ref a), .val (.int (9 : Int32)), .val (.ref b9), .val (.int (1 : Int32)), .unset] []) _
    refine Go.iload_n X49 hx (hb hby at_137) rfl ?_
    show Go p e below T49 (mkF m 138 #[.val (.int p1), .val (.ref a), .val (.int (9 : Int32)), .val (.ref b9), .val (.int (1 : Int32)), .unset] [(.int (9 : Int32))]) _
    refine Go.bipush X49 hx (hb hby at_138) ?_
    show Go p e below T49 (mkF m 140 #[.val (.int p1), .val (.ref a), .val (.int (9 : Int32)), .val (.ref b9), .val (.int (1 : Int32)), .unset] [(.int (7 : Int32)), (.int (9 : Int32))]) _
    refine Go.icmp X49 hx (hb hby at_140) (pc' := 155) (by decide) (ic_eq _ _) (fun c140 => ?_) (fun c140 => ?_)
    · exact absurd c140 (by decide)
    show Go p e below T49 (mkF m 143 #[.val (.int p1), .val (.ref a), .val (.int (9 : Int32)), .val (.ref b9), .val (.int (1 : Int32)), .unset] []) _
    refine Go.iload_n X49 hx (hb hby at_143) rfl ?_
    show Go p e below T49 (mkF m 144 #[.val (.int p1), .val (.ref a), .val (.int (9 : Int32)), .val (.ref b9), .val (.int (1 : Int32)), .unset] [(.int (9 : Int32))]) _
    refine Go.bipush X49 hx (hb hby at_144) ?_
    show Go p e below T49 (mkF m 146 #[.val (.int p1), .val (.ref a), .val (.int (9 : Int32)), .val (.ref b9), .val (.int (1 : Int32)), .unset] [(.int (8 : Int32)), (.int (9 : Int32))]) _
    refine Go.icmp X49 hx (hb hby at_146) (pc' := 155) (by decide) (ic_eq _ _) (fun c146 => ?_) (fun c146 => ?_)
    · exact absurd c146 (by decide)
    show Go p e below T49 (mkF m 149 #[.val (.int p1), .val (.ref a), .val (.int (9 : Int32)), .val (.ref b9), .val (.int (1 : Int32)), .unset] []) _
    refine Go.iload_n X49 hx (hb hby at_149) rfl ?_
    show Go p e below T49 (mkF m 150 #[.val (.int p1), .val (.ref a), .val (.int (9 : Int32)), .val (.ref b9), .val (.int (1 : Int32)), .unset] [(.int (9 : Int32))]) _
    refine Go.bipush X49 hx (hb hby at_150) ?_
    show Go p e below T49 (mkF m 152 #[.val (.int p1), .val (.ref a), .val (.int (9 : Int32)), .val (.ref b9), .val (.int (1 : Int32)), .unset] [(.int (9 : Int32)), (.int (9 : Int32))]) _
    refine Go.icmp X49 hx (hb hby at_152) (pc' := 159) (by decide) (ic_ne _ _) (fun c152 => ?_) (fun c152 => ?_)
    · exact absurd c152 (by decide)
    replace c152 := Decidable.not_not.mp c152
    show Go p e below T49 (mkF m 155 #[.val (.int p1), .val (.ref a), .val (.int (9 : Int32)), .val (.ref b9), .val (.int (1 : Int32)), .unset] []) _
    refine Go.iconst X49 hx (hb hby at_155) ?_
    show Go p e below T49 (mkF m 156 #[.val (.int p1), .val (.ref a), .val (.int (9 : Int32)), .val (.ref b9), .val (.int (1 : Int32)), .unset] [(.int (1 : Int32))]) _
    refine Go.goto X49 hx (hb hby at_156) (pc' := 160) (by decide) ?_
    show Go p e below T49 (mkF m 160 #[.val (.int p1), .val (.ref a), .val (.int (9 : Int32)), .val (.ref b9), .val (.int (1 : Int32)), .unset] [(.int (1 : Int32))]) _
    refine Go.istore X49 hx (hb hby at_160) (L' := #[.val (.int p1), .val (.ref a), .val (.int (9 : Int32)), .val (.ref b9), .val (.int (1 : Int32)), .val (.int (1 : Int32))]) rfl ?_
    show Go p e below T49 (mkF m 162 #[.val (.int p1), .val (.ref a), .val (.int (9 : Int32)), .val (.ref b9), .val (.int (1 : Int32)), .val (.int (1 : Int32))] []) _
    refine Go.iload X49 hx (hb hby at_162) rfl ?_
    show Go p e below T49 (mkF m 164 #[.val (.int p1), .val (.ref a), .val (.int (9 : Int32)), .val (.ref b9), .val (.int (1 : Int32)), .val (.int (1 : Int32))] [(.int (1 : Int32))]) _
    refine Go.iload X49 hx (hb hby at_164) rfl ?_
    show Go p e below T49 (mkF m 166 #[.val (.int p1), .val (.ref a), .val (.int (9 : Int32)), .val (.ref b9), .val (.int (1 : Int32)), .val (.int (1 : Int32))] [(.int (1 : Int32)), (.int (1 : Int32))]) _
    refine Go.icmp X49 hx (hb hby at_166) (pc' := 188) (by decide) (ic_ne _ _) (fun c166 => ?_) (fun c166 => ?_)
    · exact absurd c166 (by decide)
    replace c166 := Decidable.not_not.mp c166
    show Go p e below T49 (mkF m 169 #[.val (.int p1), .val (.ref a), .val (.int (9 : Int32)), .val (.ref b9), .val (.int (1 : Int32)), .val (.int (1 : Int32))] []) _
    refine Go.iload X49 hx (hb hby at_169) rfl ?_
    show Go p e below T49 (mkF m 171 #[.val (.int p1), .val (.ref a), .val (.int (9 : Int32)), .val (.ref b9), .val (.int (1 : Int32)), .val (.int (1 : Int32))] [(.int (1 : Int32))]) _
    refine Go.ifc X49 hx (hb hby at_171) (pc' := 184) (by decide) (iz_eq _) (fun c171 => ?_) (fun c171 => ?_)
    · exact absurd c171 (by decide)
    show Go p e below T49 (mkF m 174 #[.val (.int p1), .val (.ref a), .val (.int (9 : Int32)), .val (.ref b9), .val (.int (1 : Int32)), .val (.int (1 : Int32))] []) _
    refine Go.aload_n X49 hx (hb hby at_174) rfl rfl ?_
    show Go p e below T49 (mkF m 175 #[.val (.int p1), .val (.ref a), .val (.int (9 : Int32)), .val (.ref b9), .val (.int (1 : Int32)), .val (.int (1 : Int32))] [(.ref b9)]) _
    refine Go.callV X49 hx hZ hown (hwi hw 47 rfl) (hwi hw 48 rfl) (notFace_of_selects (args := #[]) (mvT hZ (hwi hw 50 rfl))) (hwi hw 50 rfl) (hwi hw 49 rfl) (hwi hw 51 rfl) (hwi hw 3 rfl) (by decide) e49 (Exa.ext O_35.2 Ea9) (argsL := []) (rmkd9 l Z a0 hw b0 b1 b2 b3 b4 b5 b6 b7 b8 b9 b10 b11 b12 b13 b14 b15 b16 bH h35 n0 Z35 O_35 ty) hml rfl (ps := []) (r := (some (.object "com/example/fylgja/fylgja/ResourceKind"))) (by decide +kernel) rfl (rest := []) rfl (W := 0) (Nat.le_of_eq rfl) (by decide) (by decide) (by decide) (by decide) (hb hby at_175) ?_
    rintro _ T50 L50 X50 ⟨rfl, Nq50, e50⟩
    have N50 := Fr.app N49 Nq50
    show Go p e below T50 (mkF m 178 #[.val (.int p1), .val (.ref a), .val (.int (9 : Int32)), .val (.ref b9), .val (.int (1 : Int32)), .val (.int (1 : Int32))] [(.ref bH)]) _
    refine Go.getS X50 hx hZ hown (hwi hw 56 rfl) e50 (Sta.ext O_35.2 SH) (hb hby at_178) ?_
    intro T51 X51 e51
    show Go p e below T51 (mkF m 181 #[.val (.int p1), .val (.ref a), .val (.int (9 : Int32)), .val (.ref b9), .val (.int (1 : Int32)), .val (.int (1 : Int32))] [(.ref bH), (.ref bH)]) _
    refine Go.acmp X51 hx (hb hby at_181) (pc' := 188) (by decide) rfl rfl (ac_ne _ _) (fun c181 => ?_) (fun c181 => ?_)
    · exact absurd rfl c181
    replace c181 := Decidable.not_not.mp c181
    show Go p e below T51 (mkF m 184 #[.val (.int p1), .val (.ref a), .val (.int (9 : Int32)), .val (.ref b9), .val (.int (1 : Int32)), .val (.int (1 : Int32))] []) _
    refine Go.iconst X51 hx (hb hby at_184) ?_
    show Go p e below T51 (mkF m 185 #[.val (.int p1), .val (.ref a), .val (.int (9 : Int32)), .val (.ref b9), .val (.int (1 : Int32)), .val (.int (1 : Int32))] [(.int (1 : Int32))]) _
    refine Go.goto X51 hx (hb hby at_185) (pc' := 189) (by decide) ?_
    show Go p e below T51 (mkF m 189 #[.val (.int p1), .val (.ref a), .val (.int (9 : Int32)), .val (.ref b9), .val (.int (1 : Int32)), .val (.int (1 : Int32))] [(.int (1 : Int32))]) _
    refine Go.ret_n X51 hx hret hlk (by simp) (hb hby at_189) (by decide) (by decide) ?_
    rw [e51]
    exact ⟨rfl, N50⟩
  · rw [hi]
    show Go p e below T35 (mkF m 126 #[.val (.int p1), .val (.ref a), .unset, .unset, .unset, .unset] [(.int (10 : Int32))]) _
    refine Go.istore_n X35 hx (hb hby at_126) (L' := #[.val (.int p1), .val (.ref a), .val (.int (10 : Int32)), .unset, .unset, .unset]) rfl ?_
    show Go p e below T35 (mkF m 127 #[.val (.int p1), .val (.ref a), .val (.int (10 : Int32)), .unset, .unset, .unset] []) _
    refine Go.aload_n X35 hx (hb hby at_127) rfl rfl ?_
    show Go p e below T35 (mkF m 128 #[.val (.int p1), .val (.ref a), .val (.int (10 : Int32)), .unset, .unset, .unset] [(.ref a)]) _
    refine Go.iload_n X35 hx (hb hby at_128) rfl ?_
    show Go p e below T35 (mkF m 129 #[.val (.int p1), .val (.ref a), .val (.int (10 : Int32)), .unset, .unset, .unset] [(.int (10 : Int32)), (.ref a)]) _
    refine Go.aaload X35 hx hZ e35 a_35 rfl (i := 10) rfl (by decide) rfl (hb hby at_129) ?_
    show Go p e below T35 (mkF m 130 #[.val (.int p1), .val (.ref a), .val (.int (10 : Int32)), .unset, .unset, .unset] [(.ref b10)]) _
    refine Go.astore_n X35 hx (hb hby at_130) rfl (L' := #[.val (.int p1), .val (.ref a), .val (.int (10 : Int32)), .val (.ref b10), .unset, .unset]) rfl ?_
    show Go p e below T35 (mkF m 131 #[.val (.int p1), .val (.ref a), .val (.int (10 : Int32)), .val (.ref b10), .unset, .unset] []) _
    refine Go.aload_n X35 hx (hb hby at_131) rfl rfl ?_
    show Go p e below T35 (mkF m 132 #[.val (.int p1), .val (.ref a), .val (.int (10 : Int32)), .val (.ref b10), .unset, .unset] [(.ref b10)]) _
    refine Go.callV X35 hx hZ hown (hwi hw 39 rfl) (hwi hw 40 rfl) (notFace_of_selects (args := #[]) (mvT hZ (hwi hw 42 rfl))) (hwi hw 42 rfl) (hwi hw 41 rfl) (hwi hw 43 rfl) (hwi hw 3 rfl) (by decide) e35 (Exa.ext O_35.2 Ea10) (argsL := []) (rmnp10 l Z a0 hw b0 b1 b2 b3 b4 b5 b6 b7 b8 b9 b10 b11 b12 b13 b14 b15 b16 bH h35 n0 Z35 O_35 ty) hml rfl (ps := []) (r := (some .boolean)) (by decide +kernel) rfl (rest := []) rfl (W := 0) (Nat.le_of_eq rfl) (by decide) (by decide) (by decide) (by decide) (hb hby at_132) ?_
    rintro _ T52 L52 X52 ⟨rfl, Nq52, e52⟩
    have N52 := Fr.app N35 Nq52
    show Go p e below T52 (mkF m 135 #[.val (.int p1), .val (.ref a), .val (.int (10 : Int32)), .val (.ref b10), .unset, .unset] [(.int (0 : Int32))]) _
    refine Go.istore X52 hx (hb hby at_135) (L' := #[.val (.int p1), .val (.ref a), .val (.int (10 : Int32)), .val (.ref b10), .val (.int (0 : Int32)), .unset]) rfl ?_
    show Go p e below T52 (mkF m 137 #[.val (.int p1), .val (.ref a), .val (.int (10 : Int32)), .val (.ref b10), .val (.int (0 : Int32)), .unset] []) _
    refine Go.iload_n X52 hx (hb hby at_137) rfl ?_
    show Go p e below T52 (mkF m 138 #[.val (.int p1), .val (.ref a), .val (.int (10 : Int32)), .val (.ref b10), .val (.int (0 : Int32)), .unset] [(.int (10 : Int32))]) _
    refine Go.bipush X52 hx (hb hby at_138) ?_
    show Go p e below T52 (mkF m 140 #[.val (.int p1), .val (.ref a), .val (.int (10 : Int32)), .val (.ref b10), .val (.int (0 : Int32)), .unset] [(.int (7 : Int32)), (.int (10 : Int32))]) _
    refine Go.icmp X52 hx (hb hby at_140) (pc' := 155) (by decide) (ic_eq _ _) (fun c140 => ?_) (fun c140 => ?_)
    · exact absurd c140 (by decide)
    show Go p e below T52 (mkF m 143 #[.val (.int p1), .val (.ref a), .val (.int (10 : Int32)), .val (.ref b10), .val (.int (0 : Int32)), .unset] []) _
    refine Go.iload_n X52 hx (hb hby at_143) rfl ?_
    show Go p e below T52 (mkF m 144 #[.val (.int p1), .val (.ref a), .val (.int (10 : Int32)), .val (.ref b10), .val (.int (0 : Int32)), .unset] [(.int (10 : Int32))]) _
    refine Go.bipush X52 hx (hb hby at_144) ?_
    show Go p e below T52 (mkF m 146 #[.val (.int p1), .val (.ref a), .val (.int (10 : Int32)), .val (.ref b10), .val (.int (0 : Int32)), .unset] [(.int (8 : Int32)), (.int (10 : Int32))]) _
    refine Go.icmp X52 hx (hb hby at_146) (pc' := 155) (by decide) (ic_eq _ _) (fun c146 => ?_) (fun c146 => ?_)
    · exact absurd c146 (by decide)
    show Go p e below T52 (mkF m 149 #[.val (.int p1), .val (.ref a), .val (.int (10 : Int32)), .val (.ref b10), .val (.int (0 : Int32)), .unset] []) _
    refine Go.iload_n X52 hx (hb hby at_149) rfl ?_
    show Go p e below T52 (mkF m 150 #[.val (.int p1), .val (.ref a), .val (.int (10 : Int32)), .val (.ref b10), .val (.int (0 : Int32)), .unset] [(.int (10 : Int32))]) _
    refine Go.bipush X52 hx (hb hby at_150) ?_
    show Go p e below T52 (mkF m 152 #[.val (.int p1), .val (.ref a), .val (.int (10 : Int32)), .val (.ref b10), .val (.int (0 : Int32)), .unset] [(.int (9 : Int32)), (.int (10 : Int32))]) _
    refine Go.icmp X52 hx (hb hby at_152) (pc' := 159) (by decide) (ic_ne _ _) (fun c152 => ?_) (fun c152 => ?_)
    rotate_left
    · exact absurd (by decide) c152
    show Go p e below T52 (mkF m 159 #[.val (.int p1), .val (.ref a), .val (.int (10 : Int32)), .val (.ref b10), .val (.int (0 : Int32)), .unset] []) _
    refine Go.iconst X52 hx (hb hby at_159) ?_
    show Go p e below T52 (mkF m 160 #[.val (.int p1), .val (.ref a), .val (.int (10 : Int32)), .val (.ref b10), .val (.int (0 : Int32)), .unset] [(.int (0 : Int32))]) _
    refine Go.istore X52 hx (hb hby at_160) (L' := #[.val (.int p1), .val (.ref a), .val (.int (10 : Int32)), .val (.ref b10), .val (.int (0 : Int32)), .val (.int (0 : Int32))]) rfl ?_
    show Go p e below T52 (mkF m 162 #[.val (.int p1), .val (.ref a), .val (.int (10 : Int32)), .val (.ref b10), .val (.int (0 : Int32)), .val (.int (0 : Int32))] []) _
    refine Go.iload X52 hx (hb hby at_162) rfl ?_
    show Go p e below T52 (mkF m 164 #[.val (.int p1), .val (.ref a), .val (.int (10 : Int32)), .val (.ref b10), .val (.int (0 : Int32)), .val (.int (0 : Int32))] [(.int (0 : Int32))]) _
    refine Go.iload X52 hx (hb hby at_164) rfl ?_
    show Go p e below T52 (mkF m 166 #[.val (.int p1), .val (.ref a), .val (.int (10 : Int32)), .val (.ref b10), .val (.int (0 : Int32)), .val (.int (0 : Int32))] [(.int (0 : Int32)), (.int (0 : Int32))]) _
    refine Go.icmp X52 hx (hb hby at_166) (pc' := 188) (by decide) (ic_ne _ _) (fun c166 => ?_) (fun c166 => ?_)
    · exact absurd c166 (by decide)
    replace c166 := Decidable.not_not.mp c166
    show Go p e below T52 (mkF m 169 #[.val (.int p1), .val (.ref a), .val (.int (10 : Int32)), .val (.ref b10), .val (.int (0 : Int32)), .val (.int (0 : Int32))] []) _
    refine Go.iload X52 hx (hb hby at_169) rfl ?_
    show Go p e below T52 (mkF m 171 #[.val (.int p1), .val (.ref a), .val (.int (10 : Int32)), .val (.ref b10), .val (.int (0 : Int32)), .val (.int (0 : Int32))] [(.int (0 : Int32))]) _
    refine Go.ifc X52 hx (hb hby at_171) (pc' := 184) (by decide) (iz_eq _) (fun c171 => ?_) (fun c171 => ?_)
    rotate_left
    · exact absurd (by decide) c171
    show Go p e below T52 (mkF m 184 #[.val (.int p1), .val (.ref a), .val (.int (10 : Int32)), .val (.ref b10), .val (.int (0 : Int32)), .val (.int (0 : Int32))] []) _
    refine Go.iconst X52 hx (hb hby at_184) ?_
    show Go p e below T52 (mkF m 185 #[.val (.int p1), .val (.ref a), .val (.int (10 : Int32)), .val (.ref b10), .val (.int (0 : Int32)), .val (.int (0 : Int32))] [(.int (1 : Int32))]) _
    refine Go.goto X52 hx (hb hby at_185) (pc' := 189) (by decide) ?_
    show Go p e below T52 (mkF m 189 #[.val (.int p1), .val (.ref a), .val (.int (10 : Int32)), .val (.ref b10), .val (.int (0 : Int32)), .val (.int (0 : Int32))] [(.int (1 : Int32))]) _
    refine Go.ret_n X52 hx hret hlk (by simp) (hb hby at_189) (by decide) (by decide) ?_
    rw [e52]
    exact ⟨rfl, N52⟩
  · rw [hi]
    show Go p e below T35 (mkF m 126 #[.val (.int p1), .val (.ref a), .unset, .unset, .unset, .unset] [(.int (11 : Int32))]) _
    refine Go.istore_n X35 hx (hb hby at_126) (L' := #[.val (.int p1), .val (.ref a), .val (.int (11 : Int32)), .unset, .unset, .unset]) rfl ?_
    show Go p e below T35 (mkF m 127 #[.val (.int p1), .val (.ref a), .val (.int (11 : Int32)), .unset, .unset, .unset] []) _
    refine Go.aload_n X35 hx (hb hby at_127) rfl rfl ?_
    show Go p e below T35 (mkF m 128 #[.val (.int p1), .val (.ref a), .val (.int (11 : Int32)), .unset, .unset, .unset] [(.ref a)]) _
    refine Go.iload_n X35 hx (hb hby at_128) rfl ?_
    show Go p e below T35 (mkF m 129 #[.val (.int p1), .val (.ref a), .val (.int (11 : Int32)), .unset, .unset, .unset] [(.int (11 : Int32)), (.ref a)]) _
    refine Go.aaload X35 hx hZ e35 a_35 rfl (i := 11) rfl (by decide) rfl (hb hby at_129) ?_
    show Go p e below T35 (mkF m 130 #[.val (.int p1), .val (.ref a), .val (.int (11 : Int32)), .unset, .unset, .unset] [(.ref b11)]) _
    refine Go.astore_n X35 hx (hb hby at_130) rfl (L' := #[.val (.int p1), .val (.ref a), .val (.int (11 : Int32)), .val (.ref b11), .unset, .unset]) rfl ?_
    show Go p e below T35 (mkF m 131 #[.val (.int p1), .val (.ref a), .val (.int (11 : Int32)), .val (.ref b11), .unset, .unset] []) _
    refine Go.aload_n X35 hx (hb hby at_131) rfl rfl ?_
    show Go p e below T35 (mkF m 132 #[.val (.int p1), .val (.ref a), .val (.int (11 : Int32)), .val (.ref b11), .unset, .unset] [(.ref b11)]) _
    refine Go.callV X35 hx hZ hown (hwi hw 39 rfl) (hwi hw 40 rfl) (notFace_of_selects (args := #[]) (mvT hZ (hwi hw 42 rfl))) (hwi hw 42 rfl) (hwi hw 41 rfl) (hwi hw 43 rfl) (hwi hw 3 rfl) (by decide) e35 (Exa.ext O_35.2 Ea11) (argsL := []) (rmnp11 l Z a0 hw b0 b1 b2 b3 b4 b5 b6 b7 b8 b9 b10 b11 b12 b13 b14 b15 b16 bH h35 n0 Z35 O_35 ty) hml rfl (ps := []) (r := (some .boolean)) (by decide +kernel) rfl (rest := []) rfl (W := 0) (Nat.le_of_eq rfl) (by decide) (by decide) (by decide) (by decide) (hb hby at_132) ?_
    rintro _ T53 L53 X53 ⟨rfl, Nq53, e53⟩
    have N53 := Fr.app N35 Nq53
    show Go p e below T53 (mkF m 135 #[.val (.int p1), .val (.ref a), .val (.int (11 : Int32)), .val (.ref b11), .unset, .unset] [(.int (0 : Int32))]) _
    refine Go.istore X53 hx (hb hby at_135) (L' := #[.val (.int p1), .val (.ref a), .val (.int (11 : Int32)), .val (.ref b11), .val (.int (0 : Int32)), .unset]) rfl ?_
    show Go p e below T53 (mkF m 137 #[.val (.int p1), .val (.ref a), .val (.int (11 : Int32)), .val (.ref b11), .val (.int (0 : Int32)), .unset] []) _
    refine Go.iload_n X53 hx (hb hby at_137) rfl ?_
    show Go p e below T53 (mkF m 138 #[.val (.int p1), .val (.ref a), .val (.int (11 : Int32)), .val (.ref b11), .val (.int (0 : Int32)), .unset] [(.int (11 : Int32))]) _
    refine Go.bipush X53 hx (hb hby at_138) ?_
    show Go p e below T53 (mkF m 140 #[.val (.int p1), .val (.ref a), .val (.int (11 : Int32)), .val (.ref b11), .val (.int (0 : Int32)), .unset] [(.int (7 : Int32)), (.int (11 : Int32))]) _
    refine Go.icmp X53 hx (hb hby at_140) (pc' := 155) (by decide) (ic_eq _ _) (fun c140 => ?_) (fun c140 => ?_)
    · exact absurd c140 (by decide)
    show Go p e below T53 (mkF m 143 #[.val (.int p1), .val (.ref a), .val (.int (11 : Int32)), .val (.ref b11), .val (.int (0 : Int32)), .unset] []) _
    refine Go.iload_n X53 hx (hb hby at_143) rfl ?_
    show Go p e below T53 (mkF m 144 #[.val (.int p1), .val (.ref a), .val (.int (11 : Int32)), .val (.ref b11), .val (.int (0 : Int32)), .unset] [(.int (11 : Int32))]) _
    refine Go.bipush X53 hx (hb hby at_144) ?_
    show Go p e below T53 (mkF m 146 #[.val (.int p1), .val (.ref a), .val (.int (11 : Int32)), .val (.ref b11), .val (.int (0 : Int32)), .unset] [(.int (8 : Int32)), (.int (11 : Int32))]) _
    refine Go.icmp X53 hx (hb hby at_146) (pc' := 155) (by decide) (ic_eq _ _) (fun c146 => ?_) (fun c146 => ?_)
    · exact absurd c146 (by decide)
    show Go p e below T53 (mkF m 149 #[.val (.int p1), .val (.ref a), .val (.int (11 : Int32)), .val (.ref b11), .val (.int (0 : Int32)), .unset] []) _
    refine Go.iload_n X53 hx (hb hby at_149) rfl ?_
    show Go p e below T53 (mkF m 150 #[.val (.int p1), .val (.ref a), .val (.int (11 : Int32)), .val (.ref b11), .val (.int (0 : Int32)), .unset] [(.int (11 : Int32))]) _
    refine Go.bipush X53 hx (hb hby at_150) ?_
    show Go p e below T53 (mkF m 152 #[.val (.int p1), .val (.ref a), .val (.int (11 : Int32)), .val (.ref b11), .val (.int (0 : Int32)), .unset] [(.int (9 : Int32)), (.int (11 : Int32))]) _
    refine Go.icmp X53 hx (hb hby at_152) (pc' := 159) (by decide) (ic_ne _ _) (fun c152 => ?_) (fun c152 => ?_)
    rotate_left
    · exact absurd (by decide) c152
    show Go p e below T53 (mkF m 159 #[.val (.int p1), .val (.ref a), .val (.int (11 : Int32)), .val (.ref b11), .val (.int (0 : Int32)), .unset] []) _
    refine Go.iconst X53 hx (hb hby at_159) ?_
    show Go p e below T53 (mkF m 160 #[.val (.int p1), .val (.ref a), .val (.int (11 : Int32)), .val (.ref b11), .val (.int (0 : Int32)), .unset] [(.int (0 : Int32))]) _
    refine Go.istore X53 hx (hb hby at_160) (L' := #[.val (.int p1), .val (.ref a), .val (.int (11 : Int32)), .val (.ref b11), .val (.int (0 : Int32)), .val (.int (0 : Int32))]) rfl ?_
    show Go p e below T53 (mkF m 162 #[.val (.int p1), .val (.ref a), .val (.int (11 : Int32)), .val (.ref b11), .val (.int (0 : Int32)), .val (.int (0 : Int32))] []) _
    refine Go.iload X53 hx (hb hby at_162) rfl ?_
    show Go p e below T53 (mkF m 164 #[.val (.int p1), .val (.ref a), .val (.int (11 : Int32)), .val (.ref b11), .val (.int (0 : Int32)), .val (.int (0 : Int32))] [(.int (0 : Int32))]) _
    refine Go.iload X53 hx (hb hby at_164) rfl ?_
    show Go p e below T53 (mkF m 166 #[.val (.int p1), .val (.ref a), .val (.int (11 : Int32)), .val (.ref b11), .val (.int (0 : Int32)), .val (.int (0 : Int32))] [(.int (0 : Int32)), (.int (0 : Int32))]) _
    refine Go.icmp X53 hx (hb hby at_166) (pc' := 188) (by decide) (ic_ne _ _) (fun c166 => ?_) (fun c166 => ?_)
    · exact absurd c166 (by decide)
    replace c166 := Decidable.not_not.mp c166
    show Go p e below T53 (mkF m 169 #[.val (.int p1), .val (.ref a), .val (.int (11 : Int32)), .val (.ref b11), .val (.int (0 : Int32)), .val (.int (0 : Int32))] []) _
    refine Go.iload X53 hx (hb hby at_169) rfl ?_
    show Go p e below T53 (mkF m 171 #[.val (.int p1), .val (.ref a), .val (.int (11 : Int32)), .val (.ref b11), .val (.int (0 : Int32)), .val (.int (0 : Int32))] [(.int (0 : Int32))]) _
    refine Go.ifc X53 hx (hb hby at_171) (pc' := 184) (by decide) (iz_eq _) (fun c171 => ?_) (fun c171 => ?_)
    rotate_left
    · exact absurd (by decide) c171
    show Go p e below T53 (mkF m 184 #[.val (.int p1), .val (.ref a), .val (.int (11 : Int32)), .val (.ref b11), .val (.int (0 : Int32)), .val (.int (0 : Int32))] []) _
    refine Go.iconst X53 hx (hb hby at_184) ?_
    show Go p e below T53 (mkF m 185 #[.val (.int p1), .val (.ref a), .val (.int (11 : Int32)), .val (.ref b11), .val (.int (0 : Int32)), .val (.int (0 : Int32))] [(.int (1 : Int32))]) _
    refine Go.goto X53 hx (hb hby at_185) (pc' := 189) (by decide) ?_
    show Go p e below T53 (mkF m 189 #[.val (.int p1), .val (.ref a), .val (.int (11 : Int32)), .val (.ref b11), .val (.int (0 : Int32)), .val (.int (0 : Int32))] [(.int (1 : Int32))]) _
    refine Go.ret_n X53 hx hret hlk (by simp) (hb hby at_189) (by decide) (by decide) ?_
    rw [e53]
    exact ⟨rfl, N53⟩
  · rw [hi]
    show Go p e below T35 (mkF m 126 #[.val (.int p1), .val (.ref a), .unset, .unset, .unset, .unset] [(.int (12 : Int32))]) _
    refine Go.istore_n X35 hx (hb hby at_126) (L' := #[.val (.int p1), .val (.ref a), .val (.int (12 : Int32)), .unset, .unset, .unset]) rfl ?_
    show Go p e below T35 (mkF m 127 #[.val (.int p1), .val (.ref a), .val (.int (12 : Int32)), .unset, .unset, .unset] []) _
    refine Go.aload_n X35 hx (hb hby at_127) rfl rfl ?_
    show Go p e below T35 (mkF m 128 #[.val (.int p1), .val (.ref a), .val (.int (12 : Int32)), .unset, .unset, .unset] [(.ref a)]) _
    refine Go.iload_n X35 hx (hb hby at_128) rfl ?_
    show Go p e below T35 (mkF m 129 #[.val (.int p1), .val (.ref a), .val (.int (12 : Int32)), .unset, .unset, .unset] [(.int (12 : Int32)), (.ref a)]) _
    refine Go.aaload X35 hx hZ e35 a_35 rfl (i := 12) rfl (by decide) rfl (hb hby at_129) ?_
    show Go p e below T35 (mkF m 130 #[.val (.int p1), .val (.ref a), .val (.int (12 : Int32)), .unset, .unset, .unset] [(.ref b12)]) _
    refine Go.astore_n X35 hx (hb hby at_130) rfl (L' := #[.val (.int p1), .val (.ref a), .val (.int (12 : Int32)), .val (.ref b12), .unset, .unset]) rfl ?_
    show Go p e below T35 (mkF m 131 #[.val (.int p1), .val (.ref a), .val (.int (12 : Int32)), .val (.ref b12), .unset, .unset] []) _
    refine Go.aload_n X35 hx (hb hby at_131) rfl rfl ?_
    show Go p e below T35 (mkF m 132 #[.val (.int p1), .val (.ref a), .val (.int (12 : Int32)), .val (.ref b12), .unset, .unset] [(.ref b12)]) _
    refine Go.callV X35 hx hZ hown (hwi hw 39 rfl) (hwi hw 40 rfl) (notFace_of_selects (args := #[]) (mvT hZ (hwi hw 42 rfl))) (hwi hw 42 rfl) (hwi hw 41 rfl) (hwi hw 43 rfl) (hwi hw 3 rfl) (by decide) e35 (Exa.ext O_35.2 Ea12) (argsL := []) (rmnp12 l Z a0 hw b0 b1 b2 b3 b4 b5 b6 b7 b8 b9 b10 b11 b12 b13 b14 b15 b16 bH h35 n0 Z35 O_35 ty) hml rfl (ps := []) (r := (some .boolean)) (by decide +kernel) rfl (rest := []) rfl (W := 0) (Nat.le_of_eq rfl) (by decide) (by decide) (by decide) (by decide) (hb hby at_132) ?_
    rintro _ T54 L54 X54 ⟨rfl, Nq54, e54⟩
    have N54 := Fr.app N35 Nq54
    show Go p e below T54 (mkF m 135 #[.val (.int p1), .val (.ref a), .val (.int (12 : Int32)), .val (.ref b12), .unset, .unset] [(.int (0 : Int32))]) _
    refine Go.istore X54 hx (hb hby at_135) (L' := #[.val (.int p1), .val (.ref a), .val (.int (12 : Int32)), .val (.ref b12), .val (.int (0 : Int32)), .unset]) rfl ?_
    show Go p e below T54 (mkF m 137 #[.val (.int p1), .val (.ref a), .val (.int (12 : Int32)), .val (.ref b12), .val (.int (0 : Int32)), .unset] []) _
    refine Go.iload_n X54 hx (hb hby at_137) rfl ?_
    show Go p e below T54 (mkF m 138 #[.val (.int p1), .val (.ref a), .val (.int (12 : Int32)), .val (.ref b12), .val (.int (0 : Int32)), .unset] [(.int (12 : Int32))]) _
    refine Go.bipush X54 hx (hb hby at_138) ?_
    show Go p e below T54 (mkF m 140 #[.val (.int p1), .val (.ref a), .val (.int (12 : Int32)), .val (.ref b12), .val (.int (0 : Int32)), .unset] [(.int (7 : Int32)), (.int (12 : Int32))]) _
    refine Go.icmp X54 hx (hb hby at_140) (pc' := 155) (by decide) (ic_eq _ _) (fun c140 => ?_) (fun c140 => ?_)
    · exact absurd c140 (by decide)
    show Go p e below T54 (mkF m 143 #[.val (.int p1), .val (.ref a), .val (.int (12 : Int32)), .val (.ref b12), .val (.int (0 : Int32)), .unset] []) _
    refine Go.iload_n X54 hx (hb hby at_143) rfl ?_
    show Go p e below T54 (mkF m 144 #[.val (.int p1), .val (.ref a), .val (.int (12 : Int32)), .val (.ref b12), .val (.int (0 : Int32)), .unset] [(.int (12 : Int32))]) _
    refine Go.bipush X54 hx (hb hby at_144) ?_
    show Go p e below T54 (mkF m 146 #[.val (.int p1), .val (.ref a), .val (.int (12 : Int32)), .val (.ref b12), .val (.int (0 : Int32)), .unset] [(.int (8 : Int32)), (.int (12 : Int32))]) _
    refine Go.icmp X54 hx (hb hby at_146) (pc' := 155) (by decide) (ic_eq _ _) (fun c146 => ?_) (fun c146 => ?_)
    · exact absurd c146 (by decide)
    show Go p e below T54 (mkF m 149 #[.val (.int p1), .val (.ref a), .val (.int (12 : Int32)), .val (.ref b12), .val (.int (0 : Int32)), .unset] []) _
    refine Go.iload_n X54 hx (hb hby at_149) rfl ?_
    show Go p e below T54 (mkF m 150 #[.val (.int p1), .val (.ref a), .val (.int (12 : Int32)), .val (.ref b12), .val (.int (0 : Int32)), .unset] [(.int (12 : Int32))]) _
    refine Go.bipush X54 hx (hb hby at_150) ?_
    show Go p e below T54 (mkF m 152 #[.val (.int p1), .val (.ref a), .val (.int (12 : Int32)), .val (.ref b12), .val (.int (0 : Int32)), .unset] [(.int (9 : Int32)), (.int (12 : Int32))]) _
    refine Go.icmp X54 hx (hb hby at_152) (pc' := 159) (by decide) (ic_ne _ _) (fun c152 => ?_) (fun c152 => ?_)
    rotate_left
    · exact absurd (by decide) c152
    show Go p e below T54 (mkF m 159 #[.val (.int p1), .val (.ref a), .val (.int (12 : Int32)), .val (.ref b12), .val (.int (0 : Int32)), .unset] []) _
    refine Go.iconst X54 hx (hb hby at_159) ?_
    show Go p e below T54 (mkF m 160 #[.val (.int p1), .val (.ref a), .val (.int (12 : Int32)), .val (.ref b12), .val (.int (0 : Int32)), .unset] [(.int (0 : Int32))]) _
    refine Go.istore X54 hx (hb hby at_160) (L' := #[.val (.int p1), .val (.ref a), .val (.int (12 : Int32)), .val (.ref b12), .val (.int (0 : Int32)), .val (.int (0 : Int32))]) rfl ?_
    show Go p e below T54 (mkF m 162 #[.val (.int p1), .val (.ref a), .val (.int (12 : Int32)), .val (.ref b12), .val (.int (0 : Int32)), .val (.int (0 : Int32))] []) _
    refine Go.iload X54 hx (hb hby at_162) rfl ?_
    show Go p e below T54 (mkF m 164 #[.val (.int p1), .val (.ref a), .val (.int (12 : Int32)), .val (.ref b12), .val (.int (0 : Int32)), .val (.int (0 : Int32))] [(.int (0 : Int32))]) _
    refine Go.iload X54 hx (hb hby at_164) rfl ?_
    show Go p e below T54 (mkF m 166 #[.val (.int p1), .val (.ref a), .val (.int (12 : Int32)), .val (.ref b12), .val (.int (0 : Int32)), .val (.int (0 : Int32))] [(.int (0 : Int32)), (.int (0 : Int32))]) _
    refine Go.icmp X54 hx (hb hby at_166) (pc' := 188) (by decide) (ic_ne _ _) (fun c166 => ?_) (fun c166 => ?_)
    · exact absurd c166 (by decide)
    replace c166 := Decidable.not_not.mp c166
    show Go p e below T54 (mkF m 169 #[.val (.int p1), .val (.ref a), .val (.int (12 : Int32)), .val (.ref b12), .val (.int (0 : Int32)), .val (.int (0 : Int32))] []) _
    refine Go.iload X54 hx (hb hby at_169) rfl ?_
    show Go p e below T54 (mkF m 171 #[.val (.int p1), .val (.ref a), .val (.int (12 : Int32)), .val (.ref b12), .val (.int (0 : Int32)), .val (.int (0 : Int32))] [(.int (0 : Int32))]) _
    refine Go.ifc X54 hx (hb hby at_171) (pc' := 184) (by decide) (iz_eq _) (fun c171 => ?_) (fun c171 => ?_)
    rotate_left
    · exact absurd (by decide) c171
    show Go p e below T54 (mkF m 184 #[.val (.int p1), .val (.ref a), .val (.int (12 : Int32)), .val (.ref b12), .val (.int (0 : Int32)), .val (.int (0 : Int32))] []) _
    refine Go.iconst X54 hx (hb hby at_184) ?_
    show Go p e below T54 (mkF m 185 #[.val (.int p1), .val (.ref a), .val (.int (12 : Int32)), .val (.ref b12), .val (.int (0 : Int32)), .val (.int (0 : Int32))] [(.int (1 : Int32))]) _
    refine Go.goto X54 hx (hb hby at_185) (pc' := 189) (by decide) ?_
    show Go p e below T54 (mkF m 189 #[.val (.int p1), .val (.ref a), .val (.int (12 : Int32)), .val (.ref b12), .val (.int (0 : Int32)), .val (.int (0 : Int32))] [(.int (1 : Int32))]) _
    refine Go.ret_n X54 hx hret hlk (by simp) (hb hby at_189) (by decide) (by decide) ?_
    rw [e54]
    exact ⟨rfl, N54⟩
  · rw [hi]
    show Go p e below T35 (mkF m 126 #[.val (.int p1), .val (.ref a), .unset, .unset, .unset, .unset] [(.int (13 : Int32))]) _
    refine Go.istore_n X35 hx (hb hby at_126) (L' := #[.val (.int p1), .val (.ref a), .val (.int (13 : Int32)), .unset, .unset, .unset]) rfl ?_
    show Go p e below T35 (mkF m 127 #[.val (.int p1), .val (.ref a), .val (.int (13 : Int32)), .unset, .unset, .unset] []) _
    refine Go.aload_n X35 hx (hb hby at_127) rfl rfl ?_
    show Go p e below T35 (mkF m 128 #[.val (.int p1), .val (.ref a), .val (.int (13 : Int32)), .unset, .unset, .unset] [(.ref a)]) _
    refine Go.iload_n X35 hx (hb hby at_128) rfl ?_
    show Go p e below T35 (mkF m 129 #[.val (.int p1), .val (.ref a), .val (.int (13 : Int32)), .unset, .unset, .unset] [(.int (13 : Int32)), (.ref a)]) _
    refine Go.aaload X35 hx hZ e35 a_35 rfl (i := 13) rfl (by decide) rfl (hb hby at_129) ?_
    show Go p e below T35 (mkF m 130 #[.val (.int p1), .val (.ref a), .val (.int (13 : Int32)), .unset, .unset, .unset] [(.ref b13)]) _
    refine Go.astore_n X35 hx (hb hby at_130) rfl (L' := #[.val (.int p1), .val (.ref a), .val (.int (13 : Int32)), .val (.ref b13), .unset, .unset]) rfl ?_
    show Go p e below T35 (mkF m 131 #[.val (.int p1), .val (.ref a), .val (.int (13 : Int32)), .val (.ref b13), .unset, .unset] []) _
    refine Go.aload_n X35 hx (hb hby at_131) rfl rfl ?_
    show Go p e below T35 (mkF m 132 #[.val (.int p1), .val (.ref a), .val (.int (13 : Int32)), .val (.ref b13), .unset, .unset] [(.ref b13)]) _
    refine Go.callV X35 hx hZ hown (hwi hw 39 rfl) (hwi hw 40 rfl) (notFace_of_selects (args := #[]) (mvT hZ (hwi hw 42 rfl))) (hwi hw 42 rfl) (hwi hw 41 rfl) (hwi hw 43 rfl) (hwi hw 3 rfl) (by decide) e35 (Exa.ext O_35.2 Ea13) (argsL := []) (rmnp13 l Z a0 hw b0 b1 b2 b3 b4 b5 b6 b7 b8 b9 b10 b11 b12 b13 b14 b15 b16 bH h35 n0 Z35 O_35 ty) hml rfl (ps := []) (r := (some .boolean)) (by decide +kernel) rfl (rest := []) rfl (W := 0) (Nat.le_of_eq rfl) (by decide) (by decide) (by decide) (by decide) (hb hby at_132) ?_
    rintro _ T55 L55 X55 ⟨rfl, Nq55, e55⟩
    have N55 := Fr.app N35 Nq55
    show Go p e below T55 (mkF m 135 #[.val (.int p1), .val (.ref a), .val (.int (13 : Int32)), .val (.ref b13), .unset, .unset] [(.int (0 : Int32))]) _
    refine Go.istore X55 hx (hb hby at_135) (L' := #[.val (.int p1), .val (.ref a), .val (.int (13 : Int32)), .val (.ref b13), .val (.int (0 : Int32)), .unset]) rfl ?_
    show Go p e below T55 (mkF m 137 #[.val (.int p1), .val (.ref a), .val (.int (13 : Int32)), .val (.ref b13), .val (.int (0 : Int32)), .unset] []) _
    refine Go.iload_n X55 hx (hb hby at_137) rfl ?_
    show Go p e below T55 (mkF m 138 #[.val (.int p1), .val (.ref a), .val (.int (13 : Int32)), .val (.ref b13), .val (.int (0 : Int32)), .unset] [(.int (13 : Int32))]) _
    refine Go.bipush X55 hx (hb hby at_138) ?_
    show Go p e below T55 (mkF m 140 #[.val (.int p1), .val (.ref a), .val (.int (13 : Int32)), .val (.ref b13), .val (.int (0 : Int32)), .unset] [(.int (7 : Int32)), (.int (13 : Int32))]) _
    refine Go.icmp X55 hx (hb hby at_140) (pc' := 155) (by decide) (ic_eq _ _) (fun c140 => ?_) (fun c140 => ?_)
    · exact absurd c140 (by decide)
    show Go p e below T55 (mkF m 143 #[.val (.int p1), .val (.ref a), .val (.int (13 : Int32)), .val (.ref b13), .val (.int (0 : Int32)), .unset] []) _
    refine Go.iload_n X55 hx (hb hby at_143) rfl ?_
    show Go p e below T55 (mkF m 144 #[.val (.int p1), .val (.ref a), .val (.int (13 : Int32)), .val (.ref b13), .val (.int (0 : Int32)), .unset] [(.int (13 : Int32))]) _
    refine Go.bipush X55 hx (hb hby at_144) ?_
    show Go p e below T55 (mkF m 146 #[.val (.int p1), .val (.ref a), .val (.int (13 : Int32)), .val (.ref b13), .val (.int (0 : Int32)), .unset] [(.int (8 : Int32)), (.int (13 : Int32))]) _
    refine Go.icmp X55 hx (hb hby at_146) (pc' := 155) (by decide) (ic_eq _ _) (fun c146 => ?_) (fun c146 => ?_)
    · exact absurd c146 (by decide)
    show Go p e below T55 (mkF m 149 #[.val (.int p1), .val (.ref a), .val (.int (13 : Int32)), .val (.ref b13), .val (.int (0 : Int32)), .unset] []) _
    refine Go.iload_n X55 hx (hb hby at_149) rfl ?_
    show Go p e below T55 (mkF m 150 #[.val (.int p1), .val (.ref a), .val (.int (13 : Int32)), .val (.ref b13), .val (.int (0 : Int32)), .unset] [(.int (13 : Int32))]) _
    refine Go.bipush X55 hx (hb hby at_150) ?_
    show Go p e below T55 (mkF m 152 #[.val (.int p1), .val (.ref a), .val (.int (13 : Int32)), .val (.ref b13), .val (.int (0 : Int32)), .unset] [(.int (9 : Int32)), (.int (13 : Int32))]) _
    refine Go.icmp X55 hx (hb hby at_152) (pc' := 159) (by decide) (ic_ne _ _) (fun c152 => ?_) (fun c152 => ?_)
    rotate_left
    · exact absurd (by decide) c152
    show Go p e below T55 (mkF m 159 #[.val (.int p1), .val (.ref a), .val (.int (13 : Int32)), .val (.ref b13), .val (.int (0 : Int32)), .unset] []) _
    refine Go.iconst X55 hx (hb hby at_159) ?_
    show Go p e below T55 (mkF m 160 #[.val (.int p1), .val (.ref a), .val (.int (13 : Int32)), .val (.ref b13), .val (.int (0 : Int32)), .unset] [(.int (0 : Int32))]) _
    refine Go.istore X55 hx (hb hby at_160) (L' := #[.val (.int p1), .val (.ref a), .val (.int (13 : Int32)), .val (.ref b13), .val (.int (0 : Int32)), .val (.int (0 : Int32))]) rfl ?_
    show Go p e below T55 (mkF m 162 #[.val (.int p1), .val (.ref a), .val (.int (13 : Int32)), .val (.ref b13), .val (.int (0 : Int32)), .val (.int (0 : Int32))] []) _
    refine Go.iload X55 hx (hb hby at_162) rfl ?_
    show Go p e below T55 (mkF m 164 #[.val (.int p1), .val (.ref a), .val (.int (13 : Int32)), .val (.ref b13), .val (.int (0 : Int32)), .val (.int (0 : Int32))] [(.int (0 : Int32))]) _
    refine Go.iload X55 hx (hb hby at_164) rfl ?_
    show Go p e below T55 (mkF m 166 #[.val (.int p1), .val (.ref a), .val (.int (13 : Int32)), .val (.ref b13), .val (.int (0 : Int32)), .val (.int (0 : Int32))] [(.int (0 : Int32)), (.int (0 : Int32))]) _
    refine Go.icmp X55 hx (hb hby at_166) (pc' := 188) (by decide) (ic_ne _ _) (fun c166 => ?_) (fun c166 => ?_)
    · exact absurd c166 (by decide)
    replace c166 := Decidable.not_not.mp c166
    show Go p e below T55 (mkF m 169 #[.val (.int p1), .val (.ref a), .val (.int (13 : Int32)), .val (.ref b13), .val (.int (0 : Int32)), .val (.int (0 : Int32))] []) _
    refine Go.iload X55 hx (hb hby at_169) rfl ?_
    show Go p e below T55 (mkF m 171 #[.val (.int p1), .val (.ref a), .val (.int (13 : Int32)), .val (.ref b13), .val (.int (0 : Int32)), .val (.int (0 : Int32))] [(.int (0 : Int32))]) _
    refine Go.ifc X55 hx (hb hby at_171) (pc' := 184) (by decide) (iz_eq _) (fun c171 => ?_) (fun c171 => ?_)
    rotate_left
    · exact absurd (by decide) c171
    show Go p e below T55 (mkF m 184 #[.val (.int p1), .val (.ref a), .val (.int (13 : Int32)), .val (.ref b13), .val (.int (0 : Int32)), .val (.int (0 : Int32))] []) _
    refine Go.iconst X55 hx (hb hby at_184) ?_
    show Go p e below T55 (mkF m 185 #[.val (.int p1), .val (.ref a), .val (.int (13 : Int32)), .val (.ref b13), .val (.int (0 : Int32)), .val (.int (0 : Int32))] [(.int (1 : Int32))]) _
    refine Go.goto X55 hx (hb hby at_185) (pc' := 189) (by decide) ?_
    show Go p e below T55 (mkF m 189 #[.val (.int p1), .val (.ref a), .val (.int (13 : Int32)), .val (.ref b13), .val (.int (0 : Int32)), .val (.int (0 : Int32))] [(.int (1 : Int32))]) _
    refine Go.ret_n X55 hx hret hlk (by simp) (hb hby at_189) (by decide) (by decide) ?_
    rw [e55]
    exact ⟨rfl, N55⟩
  · rw [hi]
    show Go p e below T35 (mkF m 126 #[.val (.int p1), .val (.ref a), .unset, .unset, .unset, .unset] [(.int (14 : Int32))]) _
    refine Go.istore_n X35 hx (hb hby at_126) (L' := #[.val (.int p1), .val (.ref a), .val (.int (14 : Int32)), .unset, .unset, .unset]) rfl ?_
    show Go p e below T35 (mkF m 127 #[.val (.int p1), .val (.ref a), .val (.int (14 : Int32)), .unset, .unset, .unset] []) _
    refine Go.aload_n X35 hx (hb hby at_127) rfl rfl ?_
    show Go p e below T35 (mkF m 128 #[.val (.int p1), .val (.ref a), .val (.int (14 : Int32)), .unset, .unset, .unset] [(.ref a)]) _
    refine Go.iload_n X35 hx (hb hby at_128) rfl ?_
    show Go p e below T35 (mkF m 129 #[.val (.int p1), .val (.ref a), .val (.int (14 : Int32)), .unset, .unset, .unset] [(.int (14 : Int32)), (.ref a)]) _
    refine Go.aaload X35 hx hZ e35 a_35 rfl (i := 14) rfl (by decide) rfl (hb hby at_129) ?_
    show Go p e below T35 (mkF m 130 #[.val (.int p1), .val (.ref a), .val (.int (14 : Int32)), .unset, .unset, .unset] [(.ref b14)]) _
    refine Go.astore_n X35 hx (hb hby at_130) rfl (L' := #[.val (.int p1), .val (.ref a), .val (.int (14 : Int32)), .val (.ref b14), .unset, .unset]) rfl ?_
    show Go p e below T35 (mkF m 131 #[.val (.int p1), .val (.ref a), .val (.int (14 : Int32)), .val (.ref b14), .unset, .unset] []) _
    refine Go.aload_n X35 hx (hb hby at_131) rfl rfl ?_
    show Go p e below T35 (mkF m 132 #[.val (.int p1), .val (.ref a), .val (.int (14 : Int32)), .val (.ref b14), .unset, .unset] [(.ref b14)]) _
    refine Go.callV X35 hx hZ hown (hwi hw 39 rfl) (hwi hw 40 rfl) (notFace_of_selects (args := #[]) (mvT hZ (hwi hw 42 rfl))) (hwi hw 42 rfl) (hwi hw 41 rfl) (hwi hw 43 rfl) (hwi hw 3 rfl) (by decide) e35 (Exa.ext O_35.2 Ea14) (argsL := []) (rmnp14 l Z a0 hw b0 b1 b2 b3 b4 b5 b6 b7 b8 b9 b10 b11 b12 b13 b14 b15 b16 bH h35 n0 Z35 O_35 ty) hml rfl (ps := []) (r := (some .boolean)) (by decide +kernel) rfl (rest := []) rfl (W := 0) (Nat.le_of_eq rfl) (by decide) (by decide) (by decide) (by decide) (hb hby at_132) ?_
    rintro _ T56 L56 X56 ⟨rfl, Nq56, e56⟩
    have N56 := Fr.app N35 Nq56
    show Go p e below T56 (mkF m 135 #[.val (.int p1), .val (.ref a), .val (.int (14 : Int32)), .val (.ref b14), .unset, .unset] [(.int (0 : Int32))]) _
    refine Go.istore X56 hx (hb hby at_135) (L' := #[.val (.int p1), .val (.ref a), .val (.int (14 : Int32)), .val (.ref b14), .val (.int (0 : Int32)), .unset]) rfl ?_
    show Go p e below T56 (mkF m 137 #[.val (.int p1), .val (.ref a), .val (.int (14 : Int32)), .val (.ref b14), .val (.int (0 : Int32)), .unset] []) _
    refine Go.iload_n X56 hx (hb hby at_137) rfl ?_
    show Go p e below T56 (mkF m 138 #[.val (.int p1), .val (.ref a), .val (.int (14 : Int32)), .val (.ref b14), .val (.int (0 : Int32)), .unset] [(.int (14 : Int32))]) _
    refine Go.bipush X56 hx (hb hby at_138) ?_
    show Go p e below T56 (mkF m 140 #[.val (.int p1), .val (.ref a), .val (.int (14 : Int32)), .val (.ref b14), .val (.int (0 : Int32)), .unset] [(.int (7 : Int32)), (.int (14 : Int32))]) _
    refine Go.icmp X56 hx (hb hby at_140) (pc' := 155) (by decide) (ic_eq _ _) (fun c140 => ?_) (fun c140 => ?_)
    · exact absurd c140 (by decide)
    show Go p e below T56 (mkF m 143 #[.val (.int p1), .val (.ref a), .val (.int (14 : Int32)), .val (.ref b14), .val (.int (0 : Int32)), .unset] []) _
    refine Go.iload_n X56 hx (hb hby at_143) rfl ?_
    show Go p e below T56 (mkF m 144 #[.val (.int p1), .val (.ref a), .val (.int (14 : Int32)), .val (.ref b14), .val (.int (0 : Int32)), .unset] [(.int (14 : Int32))]) _
    refine Go.bipush X56 hx (hb hby at_144) ?_
    show Go p e below T56 (mkF m 146 #[.val (.int p1), .val (.ref a), .val (.int (14 : Int32)), .val (.ref b14), .val (.int (0 : Int32)), .unset] [(.int (8 : Int32)), (.int (14 : Int32))]) _
    refine Go.icmp X56 hx (hb hby at_146) (pc' := 155) (by decide) (ic_eq _ _) (fun c146 => ?_) (fun c146 => ?_)
    · exact absurd c146 (by decide)
    show Go p e below T56 (mkF m 149 #[.val (.int p1), .val (.ref a), .val (.int (14 : Int32)), .val (.ref b14), .val (.int (0 : Int32)), .unset] []) _
    refine Go.iload_n X56 hx (hb hby at_149) rfl ?_
    show Go p e below T56 (mkF m 150 #[.val (.int p1), .val (.ref a), .val (.int (14 : Int32)), .val (.ref b14), .val (.int (0 : Int32)), .unset] [(.int (14 : Int32))]) _
    refine Go.bipush X56 hx (hb hby at_150) ?_
    show Go p e below T56 (mkF m 152 #[.val (.int p1), .val (.ref a), .val (.int (14 : Int32)), .val (.ref b14), .val (.int (0 : Int32)), .unset] [(.int (9 : Int32)), (.int (14 : Int32))]) _
    refine Go.icmp X56 hx (hb hby at_152) (pc' := 159) (by decide) (ic_ne _ _) (fun c152 => ?_) (fun c152 => ?_)
    rotate_left
    · exact absurd (by decide) c152
    show Go p e below T56 (mkF m 159 #[.val (.int p1), .val (.ref a), .val (.int (14 : Int32)), .val (.ref b14), .val (.int (0 : Int32)), .unset] []) _
    refine Go.iconst X56 hx (hb hby at_159) ?_
    show Go p e below T56 (mkF m 160 #[.val (.int p1), .val (.ref a), .val (.int (14 : Int32)), .val (.ref b14), .val (.int (0 : Int32)), .unset] [(.int (0 : Int32))]) _
    refine Go.istore X56 hx (hb hby at_160) (L' := #[.val (.int p1), .val (.ref a), .val (.int (14 : Int32)), .val (.ref b14), .val (.int (0 : Int32)), .val (.int (0 : Int32))]) rfl ?_
    show Go p e below T56 (mkF m 162 #[.val (.int p1), .val (.ref a), .val (.int (14 : Int32)), .val (.ref b14), .val (.int (0 : Int32)), .val (.int (0 : Int32))] []) _
    refine Go.iload X56 hx (hb hby at_162) rfl ?_
    show Go p e below T56 (mkF m 164 #[.val (.int p1), .val (.ref a), .val (.int (14 : Int32)), .val (.ref b14), .val (.int (0 : Int32)), .val (.int (0 : Int32))] [(.int (0 : Int32))]) _
    refine Go.iload X56 hx (hb hby at_164) rfl ?_
    show Go p e below T56 (mkF m 166 #[.val (.int p1), .val (.ref a), .val (.int (14 : Int32)), .val (.ref b14), .val (.int (0 : Int32)), .val (.int (0 : Int32))] [(.int (0 : Int32)), (.int (0 : Int32))]) _
    refine Go.icmp X56 hx (hb hby at_166) (pc' := 188) (by decide) (ic_ne _ _) (fun c166 => ?_) (fun c166 => ?_)
    · exact absurd c166 (by decide)
    replace c166 := Decidable.not_not.mp c166
    show Go p e below T56 (mkF m 169 #[.val (.int p1), .val (.ref a), .val (.int (14 : Int32)), .val (.ref b14), .val (.int (0 : Int32)), .val (.int (0 : Int32))] []) _
    refine Go.iload X56 hx (hb hby at_169) rfl ?_
    show Go p e below T56 (mkF m 171 #[.val (.int p1), .val (.ref a), .val (.int (14 : Int32)), .val (.ref b14), .val (.int (0 : Int32)), .val (.int (0 : Int32))] [(.int (0 : Int32))]) _
    refine Go.ifc X56 hx (hb hby at_171) (pc' := 184) (by decide) (iz_eq _) (fun c171 => ?_) (fun c171 => ?_)
    rotate_left
    · exact absurd (by decide) c171
    show Go p e below T56 (mkF m 184 #[.val (.int p1), .val (.ref a), .val (.int (14 : Int32)), .val (.ref b14), .val (.int (0 : Int32)), .val (.int (0 : Int32))] []) _
    refine Go.iconst X56 hx (hb hby at_184) ?_
    show Go p e below T56 (mkF m 185 #[.val (.int p1), .val (.ref a), .val (.int (14 : Int32)), .val (.ref b14), .val (.int (0 : Int32)), .val (.int (0 : Int32))] [(.int (1 : Int32))]) _
    refine Go.goto X56 hx (hb hby at_185) (pc' := 189) (by decide) ?_
    show Go p e below T56 (mkF m 189 #[.val (.int p1), .val (.ref a), .val (.int (14 : Int32)), .val (.ref b14), .val (.int (0 : Int32)), .val (.int (0 : Int32))] [(.int (1 : Int32))]) _
    refine Go.ret_n X56 hx hret hlk (by simp) (hb hby at_189) (by decide) (by decide) ?_
    rw [e56]
    exact ⟨rfl, N56⟩
  · rw [hi]
    show Go p e below T35 (mkF m 126 #[.val (.int p1), .val (.ref a), .unset, .unset, .unset, .unset] [(.int (15 : Int32))]) _
    refine Go.istore_n X35 hx (hb hby at_126) (L' := #[.val (.int p1), .val (.ref a), .val (.int (15 : Int32)), .unset, .unset, .unset]) rfl ?_
    show Go p e below T35 (mkF m 127 #[.val (.int p1), .val (.ref a), .val (.int (15 : Int32)), .unset, .unset, .unset] []) _
    refine Go.aload_n X35 hx (hb hby at_127) rfl rfl ?_
    show Go p e below T35 (mkF m 128 #[.val (.int p1), .val (.ref a), .val (.int (15 : Int32)), .unset, .unset, .unset] [(.ref a)]) _
    refine Go.iload_n X35 hx (hb hby at_128) rfl ?_
    show Go p e below T35 (mkF m 129 #[.val (.int p1), .val (.ref a), .val (.int (15 : Int32)), .unset, .unset, .unset] [(.int (15 : Int32)), (.ref a)]) _
    refine Go.aaload X35 hx hZ e35 a_35 rfl (i := 15) rfl (by decide) rfl (hb hby at_129) ?_
    show Go p e below T35 (mkF m 130 #[.val (.int p1), .val (.ref a), .val (.int (15 : Int32)), .unset, .unset, .unset] [(.ref b15)]) _
    refine Go.astore_n X35 hx (hb hby at_130) rfl (L' := #[.val (.int p1), .val (.ref a), .val (.int (15 : Int32)), .val (.ref b15), .unset, .unset]) rfl ?_
    show Go p e below T35 (mkF m 131 #[.val (.int p1), .val (.ref a), .val (.int (15 : Int32)), .val (.ref b15), .unset, .unset] []) _
    refine Go.aload_n X35 hx (hb hby at_131) rfl rfl ?_
    show Go p e below T35 (mkF m 132 #[.val (.int p1), .val (.ref a), .val (.int (15 : Int32)), .val (.ref b15), .unset, .unset] [(.ref b15)]) _
    refine Go.callV X35 hx hZ hown (hwi hw 39 rfl) (hwi hw 40 rfl) (notFace_of_selects (args := #[]) (mvT hZ (hwi hw 42 rfl))) (hwi hw 42 rfl) (hwi hw 41 rfl) (hwi hw 43 rfl) (hwi hw 3 rfl) (by decide) e35 (Exa.ext O_35.2 Ea15) (argsL := []) (rmnp15 l Z a0 hw b0 b1 b2 b3 b4 b5 b6 b7 b8 b9 b10 b11 b12 b13 b14 b15 b16 bH h35 n0 Z35 O_35 ty) hml rfl (ps := []) (r := (some .boolean)) (by decide +kernel) rfl (rest := []) rfl (W := 0) (Nat.le_of_eq rfl) (by decide) (by decide) (by decide) (by decide) (hb hby at_132) ?_
    rintro _ T57 L57 X57 ⟨rfl, Nq57, e57⟩
    have N57 := Fr.app N35 Nq57
    show Go p e below T57 (mkF m 135 #[.val (.int p1), .val (.ref a), .val (.int (15 : Int32)), .val (.ref b15), .unset, .unset] [(.int (0 : Int32))]) _
    refine Go.istore X57 hx (hb hby at_135) (L' := #[.val (.int p1), .val (.ref a), .val (.int (15 : Int32)), .val (.ref b15), .val (.int (0 : Int32)), .unset]) rfl ?_
    show Go p e below T57 (mkF m 137 #[.val (.int p1), .val (.ref a), .val (.int (15 : Int32)), .val (.ref b15), .val (.int (0 : Int32)), .unset] []) _
    refine Go.iload_n X57 hx (hb hby at_137) rfl ?_
    show Go p e below T57 (mkF m 138 #[.val (.int p1), .val (.ref a), .val (.int (15 : Int32)), .val (.ref b15), .val (.int (0 : Int32)), .unset] [(.int (15 : Int32))]) _
    refine Go.bipush X57 hx (hb hby at_138) ?_
    show Go p e below T57 (mkF m 140 #[.val (.int p1), .val (.ref a), .val (.int (15 : Int32)), .val (.ref b15), .val (.int (0 : Int32)), .unset] [(.int (7 : Int32)), (.int (15 : Int32))]) _
    refine Go.icmp X57 hx (hb hby at_140) (pc' := 155) (by decide) (ic_eq _ _) (fun c140 => ?_) (fun c140 => ?_)
    · exact absurd c140 (by decide)
    show Go p e below T57 (mkF m 143 #[.val (.int p1), .val (.ref a), .val (.int (15 : Int32)), .val (.ref b15), .val (.int (0 : Int32)), .unset] []) _
    refine Go.iload_n X57 hx (hb hby at_143) rfl ?_
    show Go p e below T57 (mkF m 144 #[.val (.int p1), .val (.ref a), .val (.int (15 : Int32)), .val (.ref b15), .val (.int (0 : Int32)), .unset] [(.int (15 : Int32))]) _
    refine Go.bipush X57 hx (hb hby at_144) ?_
    show Go p e below T57 (mkF m 146 #[.val (.int p1), .val (.ref a), .val (.int (15 : Int32)), .val (.ref b15), .val (.int (0 : Int32)), .unset] [(.int (8 : Int32)), (.int (15 : Int32))]) _
    refine Go.icmp X57 hx (hb hby at_146) (pc' := 155) (by decide) (ic_eq _ _) (fun c146 => ?_) (fun c146 => ?_)
    · exact absurd c146 (by decide)
    show Go p e below T57 (mkF m 149 #[.val (.int p1), .val (.ref a), .val (.int (15 : Int32)), .val (.ref b15), .val (.int (0 : Int32)), .unset] []) _
    refine Go.iload_n X57 hx (hb hby at_149) rfl ?_
    show Go p e below T57 (mkF m 150 #[.val (.int p1), .val (.ref a), .val (.int (15 : Int32)), .val (.ref b15), .val (.int (0 : Int32)), .unset] [(.int (15 : Int32))]) _
    refine Go.bipush X57 hx (hb hby at_150) ?_
    show Go p e below T57 (mkF m 152 #[.val (.int p1), .val (.ref a), .val (.int (15 : Int32)), .val (.ref b15), .val (.int (0 : Int32)), .unset] [(.int (9 : Int32)), (.int (15 : Int32))]) _
    refine Go.icmp X57 hx (hb hby at_152) (pc' := 159) (by decide) (ic_ne _ _) (fun c152 => ?_) (fun c152 => ?_)
    rotate_left
    · exact absurd (by decide) c152
    show Go p e below T57 (mkF m 159 #[.val (.int p1), .val (.ref a), .val (.int (15 : Int32)), .val (.ref b15), .val (.int (0 : Int32)), .unset] []) _
    refine Go.iconst X57 hx (hb hby at_159) ?_
    show Go p e below T57 (mkF m 160 #[.val (.int p1), .val (.ref a), .val (.int (15 : Int32)), .val (.ref b15), .val (.int (0 : Int32)), .unset] [(.int (0 : Int32))]) _
    refine Go.istore X57 hx (hb hby at_160) (L' := #[.val (.int p1), .val (.ref a), .val (.int (15 : Int32)), .val (.ref b15), .val (.int (0 : Int32)), .val (.int (0 : Int32))]) rfl ?_
    show Go p e below T57 (mkF m 162 #[.val (.int p1), .val (.ref a), .val (.int (15 : Int32)), .val (.ref b15), .val (.int (0 : Int32)), .val (.int (0 : Int32))] []) _
    refine Go.iload X57 hx (hb hby at_162) rfl ?_
    show Go p e below T57 (mkF m 164 #[.val (.int p1), .val (.ref a), .val (.int (15 : Int32)), .val (.ref b15), .val (.int (0 : Int32)), .val (.int (0 : Int32))] [(.int (0 : Int32))]) _
    refine Go.iload X57 hx (hb hby at_164) rfl ?_
    show Go p e below T57 (mkF m 166 #[.val (.int p1), .val (.ref a), .val (.int (15 : Int32)), .val (.ref b15), .val (.int (0 : Int32)), .val (.int (0 : Int32))] [(.int (0 : Int32)), (.int (0 : Int32))]) _
    refine Go.icmp X57 hx (hb hby at_166) (pc' := 188) (by decide) (ic_ne _ _) (fun c166 => ?_) (fun c166 => ?_)
    · exact absurd c166 (by decide)
    replace c166 := Decidable.not_not.mp c166
    show Go p e below T57 (mkF m 169 #[.val (.int p1), .val (.ref a), .val (.int (15 : Int32)), .val (.ref b15), .val (.int (0 : Int32)), .val (.int (0 : Int32))] []) _
    refine Go.iload X57 hx (hb hby at_169) rfl ?_
    show Go p e below T57 (mkF m 171 #[.val (.int p1), .val (.ref a), .val (.int (15 : Int32)), .val (.ref b15), .val (.int (0 : Int32)), .val (.int (0 : Int32))] [(.int (0 : Int32))]) _
    refine Go.ifc X57 hx (hb hby at_171) (pc' := 184) (by decide) (iz_eq _) (fun c171 => ?_) (fun c171 => ?_)
    rotate_left
    · exact absurd (by decide) c171
    show Go p e below T57 (mkF m 184 #[.val (.int p1), .val (.ref a), .val (.int (15 : Int32)), .val (.ref b15), .val (.int (0 : Int32)), .val (.int (0 : Int32))] []) _
    refine Go.iconst X57 hx (hb hby at_184) ?_
    show Go p e below T57 (mkF m 185 #[.val (.int p1), .val (.ref a), .val (.int (15 : Int32)), .val (.ref b15), .val (.int (0 : Int32)), .val (.int (0 : Int32))] [(.int (1 : Int32))]) _
    refine Go.goto X57 hx (hb hby at_185) (pc' := 189) (by decide) ?_
    show Go p e below T57 (mkF m 189 #[.val (.int p1), .val (.ref a), .val (.int (15 : Int32)), .val (.ref b15), .val (.int (0 : Int32)), .val (.int (0 : Int32))] [(.int (1 : Int32))]) _
    refine Go.ret_n X57 hx hret hlk (by simp) (hb hby at_189) (by decide) (by decide) ?_
    rw [e57]
    exact ⟨rfl, N57⟩
  · rw [hi]
    show Go p e below T35 (mkF m 126 #[.val (.int p1), .val (.ref a), .unset, .unset, .unset, .unset] [(.int (16 : Int32))]) _
    refine Go.istore_n X35 hx (hb hby at_126) (L' := #[.val (.int p1), .val (.ref a), .val (.int (16 : Int32)), .unset, .unset, .unset]) rfl ?_
    show Go p e below T35 (mkF m 127 #[.val (.int p1), .val (.ref a), .val (.int (16 : Int32)), .unset, .unset, .unset] []) _
    refine Go.aload_n X35 hx (hb hby at_127) rfl rfl ?_
    show Go p e below T35 (mkF m 128 #[.val (.int p1), .val (.ref a), .val (.int (16 : Int32)), .unset, .unset, .unset] [(.ref a)]) _
    refine Go.iload_n X35 hx (hb hby at_128) rfl ?_
    show Go p e below T35 (mkF m 129 #[.val (.int p1), .val (.ref a), .val (.int (16 : Int32)), .unset, .unset, .unset] [(.int (16 : Int32)), (.ref a)]) _
    refine Go.aaload X35 hx hZ e35 a_35 rfl (i := 16) rfl (by decide) rfl (hb hby at_129) ?_
    show Go p e below T35 (mkF m 130 #[.val (.int p1), .val (.ref a), .val (.int (16 : Int32)), .unset, .unset, .unset] [(.ref b16)]) _
    refine Go.astore_n X35 hx (hb hby at_130) rfl (L' := #[.val (.int p1), .val (.ref a), .val (.int (16 : Int32)), .val (.ref b16), .unset, .unset]) rfl ?_
    show Go p e below T35 (mkF m 131 #[.val (.int p1), .val (.ref a), .val (.int (16 : Int32)), .val (.ref b16), .unset, .unset] []) _
    refine Go.aload_n X35 hx (hb hby at_131) rfl rfl ?_
    show Go p e below T35 (mkF m 132 #[.val (.int p1), .val (.ref a), .val (.int (16 : Int32)), .val (.ref b16), .unset, .unset] [(.ref b16)]) _
    refine Go.callV X35 hx hZ hown (hwi hw 39 rfl) (hwi hw 40 rfl) (notFace_of_selects (args := #[]) (mvT hZ (hwi hw 42 rfl))) (hwi hw 42 rfl) (hwi hw 41 rfl) (hwi hw 43 rfl) (hwi hw 3 rfl) (by decide) e35 (Exa.ext O_35.2 Ea16) (argsL := []) (rmnp16 l Z a0 hw b0 b1 b2 b3 b4 b5 b6 b7 b8 b9 b10 b11 b12 b13 b14 b15 b16 bH h35 n0 Z35 O_35 ty) hml rfl (ps := []) (r := (some .boolean)) (by decide +kernel) rfl (rest := []) rfl (W := 0) (Nat.le_of_eq rfl) (by decide) (by decide) (by decide) (by decide) (hb hby at_132) ?_
    rintro _ T58 L58 X58 ⟨rfl, Nq58, e58⟩
    have N58 := Fr.app N35 Nq58
    show Go p e below T58 (mkF m 135 #[.val (.int p1), .val (.ref a), .val (.int (16 : Int32)), .val (.ref b16), .unset, .unset] [(.int (0 : Int32))]) _
    refine Go.istore X58 hx (hb hby at_135) (L' := #[.val (.int p1), .val (.ref a), .val (.int (16 : Int32)), .val (.ref b16), .val (.int (0 : Int32)), .unset]) rfl ?_
    show Go p e below T58 (mkF m 137 #[.val (.int p1), .val (.ref a), .val (.int (16 : Int32)), .val (.ref b16), .val (.int (0 : Int32)), .unset] []) _
    refine Go.iload_n X58 hx (hb hby at_137) rfl ?_
    show Go p e below T58 (mkF m 138 #[.val (.int p1), .val (.ref a), .val (.int (16 : Int32)), .val (.ref b16), .val (.int (0 : Int32)), .unset] [(.int (16 : Int32))]) _
    refine Go.bipush X58 hx (hb hby at_138) ?_
    show Go p e below T58 (mkF m 140 #[.val (.int p1), .val (.ref a), .val (.int (16 : Int32)), .val (.ref b16), .val (.int (0 : Int32)), .unset] [(.int (7 : Int32)), (.int (16 : Int32))]) _
    refine Go.icmp X58 hx (hb hby at_140) (pc' := 155) (by decide) (ic_eq _ _) (fun c140 => ?_) (fun c140 => ?_)
    · exact absurd c140 (by decide)
    show Go p e below T58 (mkF m 143 #[.val (.int p1), .val (.ref a), .val (.int (16 : Int32)), .val (.ref b16), .val (.int (0 : Int32)), .unset] []) _
    refine Go.iload_n X58 hx (hb hby at_143) rfl ?_
    show Go p e below T58 (mkF m 144 #[.val (.int p1), .val (.ref a), .val (.int (16 : Int32)), .val (.ref b16), .val (.int (0 : Int32)), .unset] [(.int (16 : Int32))]) _
    refine Go.bipush X58 hx (hb hby at_144) ?_
    show Go p e below T58 (mkF m 146 #[.val (.int p1), .val (.ref a), .val (.int (16 : Int32)), .val (.ref b16), .val (.int (0 : Int32)), .unset] [(.int (8 : Int32)), (.int (16 : Int32))]) _
    refine Go.icmp X58 hx (hb hby at_146) (pc' := 155) (by decide) (ic_eq _ _) (fun c146 => ?_) (fun c146 => ?_)
    · exact absurd c146 (by decide)
    show Go p e below T58 (mkF m 149 #[.val (.int p1), .val (.ref a), .val (.int (16 : Int32)), .val (.ref b16), .val (.int (0 : Int32)), .unset] []) _
    refine Go.iload_n X58 hx (hb hby at_149) rfl ?_
    show Go p e below T58 (mkF m 150 #[.val (.int p1), .val (.ref a), .val (.int (16 : Int32)), .val (.ref b16), .val (.int (0 : Int32)), .unset] [(.int (16 : Int32))]) _
    refine Go.bipush X58 hx (hb hby at_150) ?_
    show Go p e below T58 (mkF m 152 #[.val (.int p1), .val (.ref a), .val (.int (16 : Int32)), .val (.ref b16), .val (.int (0 : Int32)), .unset] [(.int (9 : Int32)), (.int (16 : Int32))]) _
    refine Go.icmp X58 hx (hb hby at_152) (pc' := 159) (by decide) (ic_ne _ _) (fun c152 => ?_) (fun c152 => ?_)
    rotate_left
    · exact absurd (by decide) c152
    show Go p e below T58 (mkF m 159 #[.val (.int p1), .val (.ref a), .val (.int (16 : Int32)), .val (.ref b16), .val (.int (0 : Int32)), .unset] []) _
    refine Go.iconst X58 hx (hb hby at_159) ?_
    show Go p e below T58 (mkF m 160 #[.val (.int p1), .val (.ref a), .val (.int (16 : Int32)), .val (.ref b16), .val (.int (0 : Int32)), .unset] [(.int (0 : Int32))]) _
    refine Go.istore X58 hx (hb hby at_160) (L' := #[.val (.int p1), .val (.ref a), .val (.int (16 : Int32)), .val (.ref b16), .val (.int (0 : Int32)), .val (.int (0 : Int32))]) rfl ?_
    show Go p e below T58 (mkF m 162 #[.val (.int p1), .val (.ref a), .val (.int (16 : Int32)), .val (.ref b16), .val (.int (0 : Int32)), .val (.int (0 : Int32))] []) _
    refine Go.iload X58 hx (hb hby at_162) rfl ?_
    show Go p e below T58 (mkF m 164 #[.val (.int p1), .val (.ref a), .val (.int (16 : Int32)), .val (.ref b16), .val (.int (0 : Int32)), .val (.int (0 : Int32))] [(.int (0 : Int32))]) _
    refine Go.iload X58 hx (hb hby at_164) rfl ?_
    show Go p e below T58 (mkF m 166 #[.val (.int p1), .val (.ref a), .val (.int (16 : Int32)), .val (.ref b16), .val (.int (0 : Int32)), .val (.int (0 : Int32))] [(.int (0 : Int32)), (.int (0 : Int32))]) _
    refine Go.icmp X58 hx (hb hby at_166) (pc' := 188) (by decide) (ic_ne _ _) (fun c166 => ?_) (fun c166 => ?_)
    · exact absurd c166 (by decide)
    replace c166 := Decidable.not_not.mp c166
    show Go p e below T58 (mkF m 169 #[.val (.int p1), .val (.ref a), .val (.int (16 : Int32)), .val (.ref b16), .val (.int (0 : Int32)), .val (.int (0 : Int32))] []) _
    refine Go.iload X58 hx (hb hby at_169) rfl ?_
    show Go p e below T58 (mkF m 171 #[.val (.int p1), .val (.ref a), .val (.int (16 : Int32)), .val (.ref b16), .val (.int (0 : Int32)), .val (.int (0 : Int32))] [(.int (0 : Int32))]) _
    refine Go.ifc X58 hx (hb hby at_171) (pc' := 184) (by decide) (iz_eq _) (fun c171 => ?_) (fun c171 => ?_)
    rotate_left
    · exact absurd (by decide) c171
    show Go p e below T58 (mkF m 184 #[.val (.int p1), .val (.ref a), .val (.int (16 : Int32)), .val (.ref b16), .val (.int (0 : Int32)), .val (.int (0 : Int32))] []) _
    refine Go.iconst X58 hx (hb hby at_184) ?_
    show Go p e below T58 (mkF m 185 #[.val (.int p1), .val (.ref a), .val (.int (16 : Int32)), .val (.ref b16), .val (.int (0 : Int32)), .val (.int (0 : Int32))] [(.int (1 : Int32))]) _
    refine Go.goto X58 hx (hb hby at_185) (pc' := 189) (by decide) ?_
    show Go p e below T58 (mkF m 189 #[.val (.int p1), .val (.ref a), .val (.int (16 : Int32)), .val (.ref b16), .val (.int (0 : Int32)), .val (.int (0 : Int32))] [(.int (1 : Int32))]) _
    refine Go.ret_n X58 hx hret hlk (by simp) (hb hby at_189) (by decide) (by decide) ?_
    rw [e58]
    exact ⟨rfl, N58⟩
set_option maxRecDepth 65536 in
set_option maxHeartbeats 40000000 in
theorem comes_1 {Post : Tables → Env → Array Value → State → Outcome → State → Prop} (hpost : ∀ tb e args s v u, (limb_1_1.after args s (.returned v) u = true ∧ limb_1_2.after args s (.returned v) u = true ∧ True) → FrameEnd s (.returned v) u (Jvm.fieldLocs frame_1_writes args s ++ Jvm.arrayLocs frame_1_arrays args s ++ Jvm.staticLocs frame_1_statics s) 16 128 → Post tb e args s (.returned v) u) :
    ArmFor flags0 classFile x code maxLocals ret World_1 tables_1 room_1 Calls_1 rest_1 Pre_1 Post := by
  intro l hfl _ _ p e ha hc hk s m args below hf hA hF happ hP
  obtain ⟨hcalls, hrest, hpre⟩ := hP
  obtain ⟨hg, hn⟩ := and_e (Cond.before_iff.mp (show (Jvm.Cond.and given_1 narrow_1).before args s = true from hpre))
  obtain ⟨h1, h2⟩ := and_e hg
  obtain ⟨w0, rfl⟩ : ∃ w0 : Value, args = #[w0] := by
    have hs : args.size = 1 := by simpa [Cond.value, given_1] using h1
    obtain ⟨L⟩ := args
    match L, hs with
    | [w0], _ => exact ⟨w0, rfl⟩
  have hat := ((Spec.applies_iff hf).mp happ).2.2.2.2.2.2.2
  have hw := fun d (hd : d ∈ tables_1) => atoms_spec (ws := Jvm.Cond.code x code maxLocals ret :: tables_1) hat d (List.mem_cons_of_mem _ hd)
  have hfit : Fit s := fun {y c} hc i hi => by
    obtain ⟨ha, rfl⟩ := Array.getElem?_eq_some_iff.mp hc
    have q := List.all_eq_true.mp ((Array.all_eq_true_iff_forall_mem.mp hF) _ (Array.getElem_mem ha)) i (List.mem_range.mpr hi)
    simpa [Array.getElem?_eq_getElem hi] using q
  obtain ⟨i0, f0⟩ := is_v h2
  obtain rfl : w0 = (.int i0) := Option.some.inj f0
  obtain ⟨nw0, rr0⟩ := and_e hn
  obtain ⟨nw1, rr1⟩ := and_e rr0
  obtain ⟨nw2, rr2⟩ := and_e rr1
  obtain ⟨nw3, rr3⟩ := and_e rr2
  obtain ⟨nw4, rr4⟩ := and_e rr3
  obtain ⟨nw5, rr5⟩ := and_e rr4
  obtain ⟨nw6, rr6⟩ := and_e rr5
  obtain ⟨nw7, rr7⟩ := and_e rr6
  obtain ⟨nw8, rr8⟩ := and_e rr7
  obtain ⟨nw9, rr9⟩ := and_e rr8
  obtain ⟨nw10, rr10⟩ := and_e rr9
  obtain ⟨nw11, rr11⟩ := and_e rr10
  obtain ⟨nw12, rr12⟩ := and_e rr11
  obtain ⟨nw13, rr13⟩ := and_e rr12
  obtain ⟨nw14, rr14⟩ := and_e rr13
  obtain ⟨nw15, rr15⟩ := and_e rr14
  obtain ⟨nw16, rr16⟩ := and_e rr15
  obtain ⟨nw17, rr17⟩ := and_e rr16
  obtain ⟨nw18, rr18⟩ := and_e rr17
  obtain ⟨nw19, rr19⟩ := and_e rr18
  obtain ⟨nw20, rr20⟩ := and_e rr19
  obtain ⟨nw21, rr21⟩ := and_e rr20
  obtain ⟨nw22, rr22⟩ := and_e rr21
  obtain ⟨nw23, rr23⟩ := and_e rr22
  obtain ⟨nw24, rr24⟩ := and_e rr23
  obtain ⟨nw25, rr25⟩ := and_e rr24
  obtain ⟨nw26, rr26⟩ := and_e rr25
  obtain ⟨nw27, rr27⟩ := and_e rr26
  obtain ⟨nw28, rr28⟩ := and_e rr27
  obtain ⟨nw29, rr29⟩ := and_e rr28
  obtain ⟨nw30, rr30⟩ := and_e rr29
  obtain ⟨nw31, rr31⟩ := and_e rr30
  obtain ⟨nw32, rr32⟩ := and_e rr31
  obtain ⟨nw33, rr33⟩ := and_e rr32
  obtain ⟨nw34, rr34⟩ := and_e rr33
  obtain ⟨nw35, rr35⟩ := and_e rr34
  obtain ⟨nw36, rr36⟩ := and_e rr35
  obtain ⟨nw37, rr37⟩ := and_e rr36
  obtain ⟨nw38, rr38⟩ := and_e rr37
  obtain ⟨nw39, rr39⟩ := and_e rr38
  obtain ⟨nw40, rr40⟩ := and_e rr39
  obtain ⟨nw41, rr41⟩ := and_e rr40
  obtain ⟨nw42, rr42⟩ := and_e rr41
  obtain ⟨nw43, rr43⟩ := and_e rr42
  obtain ⟨nw44, rr44⟩ := and_e rr43
  obtain ⟨nw45, rr45⟩ := and_e rr44
  obtain ⟨nw46, rr46⟩ := and_e rr45
  obtain ⟨nw47, rr47⟩ := and_e rr46
  obtain ⟨nw48, rr48⟩ := and_e rr47
  obtain ⟨nw49, rr49⟩ := and_e rr48
  obtain ⟨nw50, rr50⟩ := and_e rr49
  obtain ⟨nw51, rr51⟩ := and_e rr50
  obtain ⟨nw52, rr52⟩ := and_e rr51
  obtain ⟨nw53, rr53⟩ := and_e rr52
  obtain ⟨nw54, rr54⟩ := and_e rr53
  obtain ⟨nw55, rr55⟩ := and_e rr54
  obtain ⟨nw56, rr56⟩ := and_e rr55
  obtain ⟨nw57, rr57⟩ := and_e rr56
  obtain ⟨nw58, rr58⟩ := and_e rr57
  have nw59 := rr58
  obtain ⟨b0, ev0, S0, E0⟩ := sta_of nw0 (hwi hw 3 rfl) (hwi hw 4 rfl)
  have F0 := fld_of ev0 nw17
  obtain ⟨b1, ev1, S1, E1⟩ := sta_of nw1 (hwi hw 3 rfl) (hwi hw 7 rfl)
  have F1 := fld_of ev1 nw29
  obtain ⟨b2, ev2, S2, E2⟩ := sta_of nw2 (hwi hw 3 rfl) (hwi hw 9 rfl)
  have F2 := fld_of ev2 nw27
  obtain ⟨b3, ev3, S3, E3⟩ := sta_of nw3 (hwi hw 3 rfl) (hwi hw 11 rfl)
  have F3 := fld_of ev3 nw21
  obtain ⟨b4, ev4, S4, E4⟩ := sta_of nw4 (hwi hw 3 rfl) (hwi hw 13 rfl)
  have F4 := fld_of ev4 nw31
  obtain ⟨b5, ev5, S5, E5⟩ := sta_of nw5 (hwi hw 3 rfl) (hwi hw 15 rfl)
  have F5 := fld_of ev5 nw35
  obtain ⟨b6, ev6, S6, E6⟩ := sta_of nw6 (hwi hw 3 rfl) (hwi hw 17 rfl)
  have F6 := fld_of ev6 nw25
  obtain ⟨b7, ev7, S7, E7⟩ := sta_of nw7 (hwi hw 3 rfl) (hwi hw 19 rfl)
  have F7 := fld_of ev7 nw18
  obtain ⟨b8, ev8, S8, E8⟩ := sta_of nw8 (hwi hw 3 rfl) (hwi hw 21 rfl)
  have F8 := fld_of ev8 nw19
  obtain ⟨b9, ev9, S9, E9⟩ := sta_of nw9 (hwi hw 3 rfl) (hwi hw 23 rfl)
  have F9 := fld_of ev9 nw20
  obtain ⟨b10, ev10, S10, E10⟩ := sta_of nw10 (hwi hw 3 rfl) (hwi hw 25 rfl)
  have F10 := fld_of ev10 nw32
  obtain ⟨b11, ev11, S11, E11⟩ := sta_of nw11 (hwi hw 3 rfl) (hwi hw 27 rfl)
  have F11 := fld_of ev11 nw28
  obtain ⟨b12, ev12, S12, E12⟩ := sta_of nw12 (hwi hw 3 rfl) (hwi hw 29 rfl)
  have F12 := fld_of ev12 nw37
  obtain ⟨b13, ev13, S13, E13⟩ := sta_of nw13 (hwi hw 3 rfl) (hwi hw 31 rfl)
  have F13 := fld_of ev13 nw30
  obtain ⟨b14, ev14, S14, E14⟩ := sta_of nw14 (hwi hw 3 rfl) (hwi hw 33 rfl)
  have F14 := fld_of ev14 nw36
  obtain ⟨b15, ev15, S15, E15⟩ := sta_of nw15 (hwi hw 3 rfl) (hwi hw 35 rfl)
  have F15 := fld_of ev15 nw34
  obtain ⟨b16, ev16, S16, E16⟩ := sta_of nw16 (hwi hw 3 rfl) (hwi hw 37 rfl)
  have F16 := fld_of ev16 nw33
  obtain ⟨bH, evH, SH, EH⟩ := sta_of nw22 (hwi hw 54 rfl) (hwi hw 55 rfl)
  have K7 := fldR_of ev7 evH nw26
  have K8 := fldR_of ev8 evH nw23
  have K9 := fldR_of ev9 evH nw24
  have ty : Ty s b0 b1 b2 b3 b4 b5 b6 b7 b8 b9 b10 b11 b12 b13 b14 b15 b16 bH := ⟨S0, S1, S2, S3, S4, S5, S6, S7, S8, S9, S10, S11, S12, S13, S14, S15, S16, E0, E1, E2, E3, E4, E5, E6, E7, E8, E9, E10, E11, E12, E13, E14, E15, E16, Fld.ne F0 F7 (by decide), Fld.ne F0 F8 (by decide), Fld.ne F0 F9 (by decide), Fld.ne F1 F7 (by decide), Fld.ne F1 F8 (by decide), Fld.ne F1 F9 (by decide), Fld.ne F2 F7 (by decide), Fld.ne F2 F8 (by decide), Fld.ne F2 F9 (by decide), Fld.ne F3 F7 (by decide), Fld.ne F3 F8 (by decide), Fld.ne F3 F9 (by decide), Fld.ne F4 F7 (by decide), Fld.ne F4 F8 (by decide), Fld.ne F4 F9 (by decide), Fld.ne F5 F7 (by decide), Fld.ne F5 F8 (by decide), Fld.ne F5 F9 (by decide), Fld.ne F6 F7 (by decide), Fld.ne F6 F8 (by decide), Fld.ne F6 F9 (by decide), Fld.ne F7 F8 (by decide), Fld.ne F7 F9 (by decide), Fld.ne F8 F7 (by decide), Fld.ne F8 F9 (by decide), Fld.ne F9 F7 (by decide), Fld.ne F9 F8 (by decide), Fld.ne F10 F7 (by decide), Fld.ne F10 F8 (by decide), Fld.ne F10 F9 (by decide), Fld.ne F11 F7 (by decide), Fld.ne F11 F8 (by decide), Fld.ne F11 F9 (by decide), Fld.ne F12 F7 (by decide), Fld.ne F12 F8 (by decide), Fld.ne F12 F9 (by decide), Fld.ne F13 F7 (by decide), Fld.ne F13 F8 (by decide), Fld.ne F13 F9 (by decide), Fld.ne F14 F7 (by decide), Fld.ne F14 F8 (by decide), Fld.ne F14 F9 (by decide), Fld.ne F15 F7 (by decide), Fld.ne F15 F8 (by decide), Fld.ne F15 F9 (by decide), Fld.ne F16 F7 (by decide), Fld.ne F16 F8 (by decide), Fld.ne F16 F9 (by decide), K7, K8, K9, SH⟩
  obtain ⟨n, o, h1, h2, h3, _, L, rfl, ⟨rfl, N⟩, hq⟩ := rm0 l s _ hw tables_1 i0 b0 b1 b2 b3 b4 b5 b6 b7 b8 b9 b10 b11 b12 b13 b14 b15 b16 bH s.heap s.heap.size (Nat.le_refl _) (Old.start s) ty p e ha hc hk s m _ below hf ((Spec.applies_iff_loose hf).mp happ).1 ⟨rfl, State.Warmed39.refl s, rfl⟩ trivial
  refine ⟨n, _, h1, h2, h3, hpost _ _ _ _ _ _ ⟨Cond.after_iff.mpr rfl, Cond.after_iff.mpr (eq_i res_at (Term.int_eval (1)) rfl), trivial⟩ ⟨hq.1, hq.2.1, (hq.2.2.sift fun y hy => Or.inr (N y hy)).mono (by decide) (by decide)⟩⟩
theorem main_1_1 : Claimed_1_1 := comes_1 fun _ _ _ _ _ _ h hF => ⟨h.1, hF⟩
theorem main_1_2 : Claimed_1_2 := comes_1 fun _ _ _ _ _ _ h hF => ⟨h.2.1, hF⟩
end Jvm.Pilot.@@N@@
namespace Jvm.Pilot.@@N@@
open Jvm Jvm.ClassFile Sem Op Lib Jvm.Free Jvm.Stand Jvm.Pilot.@@N@@.Jvm.D
/-! MADE BY PROGRAM (witnessworld.py) out of the Statement's table words and the real class files: 14 classes; the members and pool entries that the words name. The judged class is class 1, her method 1. -/
namespace start1
open Jvm.ClassFile
def u (s : String) : CpInfo := .utf8 (stringToUtf16 s)
/-- a pool by its gaps: so many unusable entries, then the entry; so many at the end -/
def gap : Nat → List CpInfo → List CpInfo
  | 0, r => r
  | n + 1, r => .unusable :: gap n r
def poolList (es : List (Nat × CpInfo)) (last : Nat) : List CpInfo := es.foldr (fun e r => gap e.1 (e.2 :: r)) (gap last [])
def pool (es : List (Nat × CpInfo)) (last : Nat) : Array CpInfo := ⟨poolList es last⟩
def fileOf (pool : Array CpInfo) (this : Nat) (attrs : Array Attribute := #[]) (ms : Array MethodInfo := #[]) (fl : Nat := 33) (sup : Nat := 0) (ifs : Array Nat := #[]) (fds : Array FieldInfo := #[]) : ClassFile where
  minorVersion := 0
  majorVersion := 65
  constantPool := pool
  accessFlags := fl
  thisClass := this
  superClass := sup
  interfaces := ifs
  fields := fds
  methods := ms
  attributes := attrs
def plain (name : String) (sup : Option ClassId) : Class where
  name := name
  kind := .ordinary
  loader := none
  accessFlags := 33
  super := sup
  interfaces := #[]
  cf := none
  fields := #[]
  methods := #[]
  instanceTypes := #[]
  staticTypes := #[]
  resolved := #[]
  callSites := []
  init := .initialized
  statics := none
  mirror := none

def pool0 : Array CpInfo := pool [(5, u "<init>"), (0, u "()V"), (1, .class_ 10), (1, u "java/lang/Object")] 113

def k0m0 : Method := { name := "<init>", desc := "()V", sig := { parameters := [], returnType := none }, accessFlags := 1, code := none }
/-- java/lang/Object -/
def k0 : Class := { plain "java/lang/Object" none with
  accessFlags := 33
  interfaces := #[]
  cf := some (fileOf pool0 8 #[] #[{ accessFlags := 1, nameIndex := 5, descriptorIndex := 6, attributes := #[] }] 33 0 #[] #[])
  fields := #[]
  methods := #[k0m0]
  instanceTypes := #[]
  staticTypes := #[]
  resolved := Array.replicate 124 none
  statics := none }

def pool1 : Array CpInfo := pool [(2, .class_ 4), (1, u "java/lang/Object"), (0, u "<init>"), (0, u "()V"), (0, .class_ 8), (0, u "com/example/fylgja/fylgja/Access"), (0, .fieldref 7 10), (0, .nameAndType 11 12), (0, u "FILE_READ"), (0, u "Lcom/example/fylgja/fylgja/Access;"), (0, .fieldref 7 14), (0, .nameAndType 15 12), (0, u "FILE_WRITE"), (0, .fieldref 7 17), (0, .nameAndType 18 12), (0, u "FILE_CREATE"), (0, .fieldref 7 20), (0, .nameAndType 21 12), (0, u "FILE_DELETE"), (0, .fieldref 7 23), (0, .nameAndType 24 12), (0, u "DIRECTORY_READ"), (0, .fieldref 7 26), (0, .nameAndType 27 12), (0, u "DIRECTORY_CREATE"), (0, .fieldref 7 29), (0, .nameAndType 30 12), (0, u "HOST_RESOLVE"), (0, .fieldref 7 32), (0, .nameAndType 33 12), (0, u "HOST_CONNECT_TO"), (0, .fieldref 7 35), (0, .nameAndType 36 12), (0, u "HOST_CONNECT_FROM"), (0, .fieldref 7 38), (0, .nameAndType 39 12), (0, u "HOST_LISTEN"), (0, .fieldref 7 41), (0, .nameAndType 42 12), (0, u "COMMAND_EXEC"), (0, .fieldref 7 44), (0, .nameAndType 45 12), (0, u "PROPERTY_READ"), (0, .fieldref 7 47), (0, .nameAndType 48 12), (0, u "PROPERTY_WRITE"), (0, .fieldref 7 50), (0, .nameAndType 51 12), (0, u "ENV_READ"), (0, .fieldref 7 53), (0, .nameAndType 54 12), (0, u "CLASS_DEFINE"), (0, .fieldref 7 56), (0, .nameAndType 57 12), (0, u "LIBRARY_LINK"), (0, .fieldref 7 59), (0, .nameAndType 60 12), (0, u "PROGRAM_EXIT"), (0, .integer 2147483647), (0, .methodref 7 63), (0, .nameAndType 64 65), (0, u "namesPort"), (0, u "()Z"), (0, .methodref 7 67), (0, .nameAndType 68 69), (0, u "kind"), (0, u "()Lcom/example/fylgja/fylgja/ResourceKind;"), (0, .fieldref 71 72), (0, .class_ 73), (0, .nameAndType 74 75), (0, u "com/example/fylgja/fylgja/ResourceKind"), (0, u "HOST"), (0, u "Lcom/example/fylgja/fylgja/ResourceKind;"), (0, .class_ 77), (0, u "com/example/fylgja/fylgja/AccessNamesPortPinLaw"), (2, u "law"), (0, u "(I)Z")] 5

def k1m0 : Method := { name := "<init>", desc := "()V", sig := { parameters := [], returnType := none }, accessFlags := 2, code := none }
def k1c1 : Code := { maxStack := 4, maxLocals := 6, code := code, exceptionTable := #[], attributes := #[] }
def k1m1 : Method := { name := "law", desc := "(I)Z", sig := { parameters := [.int], returnType := some .boolean }, accessFlags := 9, code := some k1c1 }
/-- com/example/fylgja/fylgja/AccessNamesPortPinLaw -/
def k1 : Class := { plain "com/example/fylgja/fylgja/AccessNamesPortPinLaw" (some 0) with
  accessFlags := 49
  interfaces := #[]
  cf := some (fileOf pool1 76 #[] #[{ accessFlags := 2, nameIndex := 5, descriptorIndex := 6, attributes := #[] }, { accessFlags := 9, nameIndex := 80, descriptorIndex := 81, attributes := #[] }] 49 2 #[] #[])
  fields := #[]
  methods := #[k1m0, k1m1]
  instanceTypes := #[]
  staticTypes := #[]
  resolved := Array.replicate 87 none
  statics := none }

def pool2 : Array CpInfo := pool [(1, .class_ 2), (0, u "java/lang/constant/Constable"), (0, .class_ 4), (0, u "java/lang/Object")] 6

/-- java/lang/constant/Constable -/
def k2 : Class := { plain "java/lang/constant/Constable" (some 0) with
  accessFlags := 1537
  interfaces := #[]
  cf := some (fileOf pool2 1 #[] #[] 1537 3 #[] #[])
  fields := #[]
  methods := #[]
  instanceTypes := #[]
  staticTypes := #[]
  resolved := Array.replicate 11 none
  statics := none }

def pool3 : Array CpInfo := pool [(1, .class_ 2), (0, u "java/lang/Comparable"), (0, .class_ 4), (0, u "java/lang/Object")] 7

/-- java/lang/Comparable -/
def k3 : Class := { plain "java/lang/Comparable" (some 0) with
  accessFlags := 1537
  interfaces := #[]
  cf := some (fileOf pool3 1 #[] #[] 1537 3 #[] #[])
  fields := #[]
  methods := #[]
  instanceTypes := #[]
  staticTypes := #[]
  resolved := Array.replicate 12 none
  statics := none }

def pool4 : Array CpInfo := pool [(1, .class_ 2), (0, u "java/io/Serializable"), (0, .class_ 4), (0, u "java/lang/Object")] 2

/-- java/io/Serializable -/
def k4 : Class := { plain "java/io/Serializable" (some 0) with
  accessFlags := 1537
  interfaces := #[]
  cf := some (fileOf pool4 1 #[] #[] 1537 3 #[] #[])
  fields := #[]
  methods := #[]
  instanceTypes := #[]
  staticTypes := #[]
  resolved := Array.replicate 7 none
  statics := none }

def pool5 : Array CpInfo := pool [(2, .class_ 4), (1, u "java/lang/Enum"), (0, u "name"), (0, u "Ljava/lang/String;"), (2, u "ordinal"), (0, u "I"), (1, .class_ 14), (1, u "java/lang/Object"), (4, u "hash"), (86, .class_ 108), (1, u "java/lang/Enum$EnumDesc"), (2, .class_ 112), (0, u "java/lang/constant/Constable"), (0, .class_ 114), (0, u "java/lang/Comparable"), (0, .class_ 116), (0, u "java/io/Serializable")] 87

/-- java/lang/Enum -/
def k5 : Class := { plain "java/lang/Enum" (some 0) with
  accessFlags := 1057
  interfaces := #[2, 3, 4]
  cf := some (fileOf pool5 2 #[.nestMembers #[106]] #[] 1057 12 #[111, 113, 115] #[{ accessFlags := 18, nameIndex := 5, descriptorIndex := 6, attributes := #[] }, { accessFlags := 18, nameIndex := 9, descriptorIndex := 10, attributes := #[] }, { accessFlags := 2, nameIndex := 19, descriptorIndex := 10, attributes := #[] }])
  fields := #[{ name := "name", type := (.object "java/lang/String"), accessFlags := 18, slot := 0, constantValue := 0 }, { name := "ordinal", type := .int, accessFlags := 18, slot := 1, constantValue := 0 }, { name := "hash", type := .int, accessFlags := 2, slot := 2, constantValue := 0 }]
  methods := #[]
  instanceTypes := #[(.object "java/lang/String"), .int, .int]
  staticTypes := #[]
  resolved := Array.replicate 204 none
  statics := none }

def pool6 : Array CpInfo := pool [(1, .class_ 2), (0, u "com/example/fylgja/fylgja/Access"), (2, u "FILE_READ"), (0, u "Lcom/example/fylgja/fylgja/Access;"), (2, u "FILE_WRITE"), (2, u "FILE_CREATE"), (2, u "FILE_DELETE"), (2, u "DIRECTORY_READ"), (2, u "DIRECTORY_CREATE"), (2, u "HOST_RESOLVE"), (0, .fieldref 1 26), (0, .nameAndType 27 6), (0, u "HOST_CONNECT_TO"), (0, .fieldref 1 29), (0, .nameAndType 30 6), (0, u "HOST_CONNECT_FROM"), (0, .fieldref 1 32), (0, .nameAndType 33 6), (0, u "HOST_LISTEN"), (2, u "COMMAND_EXEC"), (2, u "PROPERTY_READ"), (2, u "PROPERTY_WRITE"), (2, u "ENV_READ"), (2, u "CLASS_DEFINE"), (2, u "LIBRARY_LINK"), (2, u "PROGRAM_EXIT"), (2, u "$VALUES"), (0, u "[Lcom/example/fylgja/fylgja/Access;"), (6, .class_ 67), (1, u "java/lang/Enum"), (8, u "canonicalName"), (0, u "Ljava/lang/String;"), (21, .fieldref 1 100), (0, .nameAndType 101 102), (0, u "kind"), (0, u "Lcom/example/fylgja/fylgja/ResourceKind;"), (10, u "BY_KEY"), (0, u "Ljava/util/Map;"), (104, u "()Lcom/example/fylgja/fylgja/ResourceKind;"), (0, u "namesPort"), (0, u "()Z")] 6

def k6c0 : Code := { maxStack := 1, maxLocals := 1, code := prog_1_method_6_code, exceptionTable := #[], attributes := #[] }
def k6m0 : Method := { name := "kind", desc := "()Lcom/example/fylgja/fylgja/ResourceKind;", sig := { parameters := [], returnType := some (.object "com/example/fylgja/fylgja/ResourceKind") }, accessFlags := 0, code := some k6c0 }
def k6c1 : Code := { maxStack := 2, maxLocals := 1, code := prog_1_method_7_code, exceptionTable := #[], attributes := #[] }
def k6m1 : Method := { name := "namesPort", desc := "()Z", sig := { parameters := [], returnType := some .boolean }, accessFlags := 0, code := some k6c1 }
/-- com/example/fylgja/fylgja/Access -/
def k6 : Class := { plain "com/example/fylgja/fylgja/Access" (some 5) with
  accessFlags := 16432
  interfaces := #[]
  cf := some (fileOf pool6 1 #[] #[{ accessFlags := 0, nameIndex := 101, descriptorIndex := 219, attributes := #[] }, { accessFlags := 0, nameIndex := 220, descriptorIndex := 221, attributes := #[] }] 16432 65 #[] #[{ accessFlags := 16409, nameIndex := 5, descriptorIndex := 6, attributes := #[] }, { accessFlags := 16409, nameIndex := 9, descriptorIndex := 6, attributes := #[] }, { accessFlags := 16409, nameIndex := 12, descriptorIndex := 6, attributes := #[] }, { accessFlags := 16409, nameIndex := 15, descriptorIndex := 6, attributes := #[] }, { accessFlags := 16409, nameIndex := 18, descriptorIndex := 6, attributes := #[] }, { accessFlags := 16409, nameIndex := 21, descriptorIndex := 6, attributes := #[] }, { accessFlags := 16409, nameIndex := 24, descriptorIndex := 6, attributes := #[] }, { accessFlags := 16409, nameIndex := 27, descriptorIndex := 6, attributes := #[] }, { accessFlags := 16409, nameIndex := 30, descriptorIndex := 6, attributes := #[] }, { accessFlags := 16409, nameIndex := 33, descriptorIndex := 6, attributes := #[] }, { accessFlags := 16409, nameIndex := 36, descriptorIndex := 6, attributes := #[] }, { accessFlags := 16409, nameIndex := 39, descriptorIndex := 6, attributes := #[] }, { accessFlags := 16409, nameIndex := 42, descriptorIndex := 6, attributes := #[] }, { accessFlags := 16409, nameIndex := 45, descriptorIndex := 6, attributes := #[] }, { accessFlags := 16409, nameIndex := 48, descriptorIndex := 6, attributes := #[] }, { accessFlags := 16409, nameIndex := 51, descriptorIndex := 6, attributes := #[] }, { accessFlags := 16409, nameIndex := 54, descriptorIndex := 6, attributes := #[] }, { accessFlags := 26, nameIndex := 113, descriptorIndex := 114, attributes := #[] }, { accessFlags := 18, nameIndex := 76, descriptorIndex := 77, attributes := #[] }, { accessFlags := 18, nameIndex := 101, descriptorIndex := 102, attributes := #[] }, { accessFlags := 4122, nameIndex := 57, descriptorIndex := 58, attributes := #[] }])
  fields := #[{ name := "FILE_READ", type := (.object "com/example/fylgja/fylgja/Access"), accessFlags := 16409, slot := 0, constantValue := 0 }, { name := "FILE_WRITE", type := (.object "com/example/fylgja/fylgja/Access"), accessFlags := 16409, slot := 1, constantValue := 0 }, { name := "FILE_CREATE", type := (.object "com/example/fylgja/fylgja/Access"), accessFlags := 16409, slot := 2, constantValue := 0 }, { name := "FILE_DELETE", type := (.object "com/example/fylgja/fylgja/Access"), accessFlags := 16409, slot := 3, constantValue := 0 }, { name := "DIRECTORY_READ", type := (.object "com/example/fylgja/fylgja/Access"), accessFlags := 16409, slot := 4, constantValue := 0 }, { name := "DIRECTORY_CREATE", type := (.object "com/example/fylgja/fylgja/Access"), accessFlags := 16409, slot := 5, constantValue := 0 }, { name := "HOST_RESOLVE", type := (.object "com/example/fylgja/fylgja/Access"), accessFlags := 16409, slot := 6, constantValue := 0 }, { name := "HOST_CONNECT_TO", type := (.object "com/example/fylgja/fylgja/Access"), accessFlags := 16409, slot := 7, constantValue := 0 }, { name := "HOST_CONNECT_FROM", type := (.object "com/example/fylgja/fylgja/Access"), accessFlags := 16409, slot := 8, constantValue := 0 }, { name := "HOST_LISTEN", type := (.object "com/example/fylgja/fylgja/Access"), accessFlags := 16409, slot := 9, constantValue := 0 }, { name := "COMMAND_EXEC", type := (.object "com/example/fylgja/fylgja/Access"), accessFlags := 16409, slot := 10, constantValue := 0 }, { name := "PROPERTY_READ", type := (.object "com/example/fylgja/fylgja/Access"), accessFlags := 16409, slot := 11, constantValue := 0 }, { name := "PROPERTY_WRITE", type := (.object "com/example/fylgja/fylgja/Access"), accessFlags := 16409, slot := 12, constantValue := 0 }, { name := "ENV_READ", type := (.object "com/example/fylgja/fylgja/Access"), accessFlags := 16409, slot := 13, constantValue := 0 }, { name := "CLASS_DEFINE", type := (.object "com/example/fylgja/fylgja/Access"), accessFlags := 16409, slot := 14, constantValue := 0 }, { name := "LIBRARY_LINK", type := (.object "com/example/fylgja/fylgja/Access"), accessFlags := 16409, slot := 15, constantValue := 0 }, { name := "PROGRAM_EXIT", type := (.object "com/example/fylgja/fylgja/Access"), accessFlags := 16409, slot := 16, constantValue := 0 }, { name := "BY_KEY", type := (.object "java/util/Map"), accessFlags := 26, slot := 17, constantValue := 0 }, { name := "canonicalName", type := (.object "java/lang/String"), accessFlags := 18, slot := 3, constantValue := 0 }, { name := "kind", type := (.object "com/example/fylgja/fylgja/ResourceKind"), accessFlags := 18, slot := 4, constantValue := 0 }, { name := "$VALUES", type := (.array (.object "com/example/fylgja/fylgja/Access")), accessFlags := 4122, slot := 18, constantValue := 0 }]
  methods := #[k6m0, k6m1]
  instanceTypes := #[(.object "java/lang/String"), .int, .int, (.object "java/lang/String"), (.object "com/example/fylgja/fylgja/ResourceKind")]
  staticTypes := #[(.object "com/example/fylgja/fylgja/Access"), (.object "com/example/fylgja/fylgja/Access"), (.object "com/example/fylgja/fylgja/Access"), (.object "com/example/fylgja/fylgja/Access"), (.object "com/example/fylgja/fylgja/Access"), (.object "com/example/fylgja/fylgja/Access"), (.object "com/example/fylgja/fylgja/Access"), (.object "com/example/fylgja/fylgja/Access"), (.object "com/example/fylgja/fylgja/Access"), (.object "com/example/fylgja/fylgja/Access"), (.object "com/example/fylgja/fylgja/Access"), (.object "com/example/fylgja/fylgja/Access"), (.object "com/example/fylgja/fylgja/Access"), (.object "com/example/fylgja/fylgja/Access"), (.object "com/example/fylgja/fylgja/Access"), (.object "com/example/fylgja/fylgja/Access"), (.object "com/example/fylgja/fylgja/Access"), (.object "java/util/Map"), (.array (.object "com/example/fylgja/fylgja/Access"))]
  resolved := Array.replicate 228 none
  statics := some 0 }

def pool7 : Array CpInfo := pool [(1, .class_ 2), (0, u "com/example/fylgja/fylgja/ResourceKind"), (2, u "FILE"), (0, u "Lcom/example/fylgja/fylgja/ResourceKind;"), (2, u "DIRECTORY"), (2, u "HOST"), (2, u "COMMAND"), (2, u "PROPERTY"), (2, u "ENV"), (2, u "CLASS"), (2, u "LIBRARY"), (2, u "PROGRAM"), (2, u "$VALUES"), (0, u "[Lcom/example/fylgja/fylgja/ResourceKind;"), (6, .class_ 43), (1, u "java/lang/Enum"), (8, u "canonicalName"), (0, u "Ljava/lang/String;"), (2, u "pastSubject"), (0, u "Z"), (8, u "fieldsByKey"), (0, u "Ljava/util/Map;"), (2, u "BY_KEY"), (16, .class_ 88), (0, u "com/example/fylgja/fylgja/ResourceKind$Field"), (48, .class_ 139), (1, u "com/example/fylgja/fylgja/ResourceKind$Requester"), (15, .class_ 157), (1, u "com/example/fylgja/fylgja/ResourceKind$Reading"), (92, u "MAX_PORT"), (0, u "I")] 37

/-- com/example/fylgja/fylgja/ResourceKind -/
def k7 : Class := { plain "com/example/fylgja/fylgja/ResourceKind" (some 5) with
  accessFlags := 16432
  interfaces := #[]
  cf := some (fileOf pool7 1 #[.nestMembers #[137, 155, 87]] #[] 16432 41 #[] #[{ accessFlags := 16409, nameIndex := 5, descriptorIndex := 6, attributes := #[] }, { accessFlags := 16409, nameIndex := 9, descriptorIndex := 6, attributes := #[] }, { accessFlags := 16409, nameIndex := 12, descriptorIndex := 6, attributes := #[] }, { accessFlags := 16409, nameIndex := 15, descriptorIndex := 6, attributes := #[] }, { accessFlags := 16409, nameIndex := 18, descriptorIndex := 6, attributes := #[] }, { accessFlags := 16409, nameIndex := 21, descriptorIndex := 6, attributes := #[] }, { accessFlags := 16409, nameIndex := 24, descriptorIndex := 6, attributes := #[] }, { accessFlags := 16409, nameIndex := 27, descriptorIndex := 6, attributes := #[] }, { accessFlags := 16409, nameIndex := 30, descriptorIndex := 6, attributes := #[] }, { accessFlags := 24, nameIndex := 250, descriptorIndex := 251, attributes := #[] }, { accessFlags := 26, nameIndex := 70, descriptorIndex := 67, attributes := #[] }, { accessFlags := 18, nameIndex := 52, descriptorIndex := 53, attributes := #[] }, { accessFlags := 18, nameIndex := 56, descriptorIndex := 57, attributes := #[] }, { accessFlags := 18, nameIndex := 66, descriptorIndex := 67, attributes := #[] }, { accessFlags := 4122, nameIndex := 33, descriptorIndex := 34, attributes := #[] }])
  fields := #[{ name := "FILE", type := (.object "com/example/fylgja/fylgja/ResourceKind"), accessFlags := 16409, slot := 0, constantValue := 0 }, { name := "DIRECTORY", type := (.object "com/example/fylgja/fylgja/ResourceKind"), accessFlags := 16409, slot := 1, constantValue := 0 }, { name := "HOST", type := (.object "com/example/fylgja/fylgja/ResourceKind"), accessFlags := 16409, slot := 2, constantValue := 0 }, { name := "COMMAND", type := (.object "com/example/fylgja/fylgja/ResourceKind"), accessFlags := 16409, slot := 3, constantValue := 0 }, { name := "PROPERTY", type := (.object "com/example/fylgja/fylgja/ResourceKind"), accessFlags := 16409, slot := 4, constantValue := 0 }, { name := "ENV", type := (.object "com/example/fylgja/fylgja/ResourceKind"), accessFlags := 16409, slot := 5, constantValue := 0 }, { name := "CLASS", type := (.object "com/example/fylgja/fylgja/ResourceKind"), accessFlags := 16409, slot := 6, constantValue := 0 }, { name := "LIBRARY", type := (.object "com/example/fylgja/fylgja/ResourceKind"), accessFlags := 16409, slot := 7, constantValue := 0 }, { name := "PROGRAM", type := (.object "com/example/fylgja/fylgja/ResourceKind"), accessFlags := 16409, slot := 8, constantValue := 0 }, { name := "MAX_PORT", type := .int, accessFlags := 24, slot := 9, constantValue := 0 }, { name := "BY_KEY", type := (.object "java/util/Map"), accessFlags := 26, slot := 10, constantValue := 0 }, { name := "canonicalName", type := (.object "java/lang/String"), accessFlags := 18, slot := 3, constantValue := 0 }, { name := "pastSubject", type := .boolean, accessFlags := 18, slot := 4, constantValue := 0 }, { name := "fieldsByKey", type := (.object "java/util/Map"), accessFlags := 18, slot := 5, constantValue := 0 }, { name := "$VALUES", type := (.array (.object "com/example/fylgja/fylgja/ResourceKind")), accessFlags := 4122, slot := 11, constantValue := 0 }]
  methods := #[]
  instanceTypes := #[(.object "java/lang/String"), .int, .int, (.object "java/lang/String"), .boolean, (.object "java/util/Map")]
  staticTypes := #[(.object "com/example/fylgja/fylgja/ResourceKind"), (.object "com/example/fylgja/fylgja/ResourceKind"), (.object "com/example/fylgja/fylgja/ResourceKind"), (.object "com/example/fylgja/fylgja/ResourceKind"), (.object "com/example/fylgja/fylgja/ResourceKind"), (.object "com/example/fylgja/fylgja/ResourceKind"), (.object "com/example/fylgja/fylgja/ResourceKind"), (.object "com/example/fylgja/fylgja/ResourceKind"), (.object "com/example/fylgja/fylgja/ResourceKind"), .int, (.object "java/util/Map"), (.array (.object "com/example/fylgja/fylgja/ResourceKind"))]
  resolved := Array.replicate 289 none
  statics := some 1 }

def pool8 : Array CpInfo := pool [(1, u "java/lang/Cloneable"), (0, .class_ 1), (0, u "java/lang/Object"), (0, .class_ 3)] 3

/-- java/lang/Cloneable -/
def k8 : Class := { plain "java/lang/Cloneable" (some 0) with
  accessFlags := 1537
  interfaces := #[]
  cf := some (fileOf pool8 2 #[] #[] 1537 4 #[] #[])
  fields := #[]
  methods := #[]
  instanceTypes := #[]
  staticTypes := #[]
  resolved := Array.replicate 8 none
  statics := none }

/-- the primitive byte -/
def k9 : Class := { plain "byte" none with kind := .primitive 'B', accessFlags := 0x411 }
/-- [B -/
def k10 : Class := { plain "[B" (some 0) with kind := .array 9 .byte, interfaces := #[8, 4], accessFlags := 1041 }

/-- the primitive int -/
def k11 : Class := { plain "int" none with kind := .primitive 'I', accessFlags := 0x411 }
/-- [I -/
def k12 : Class := { plain "[I" (some 0) with kind := .array 11 .int, interfaces := #[8, 4], accessFlags := 1041 }

/-- [Lcom/example/fylgja/fylgja/Access; -/
def k13 : Class := { plain "[Lcom/example/fylgja/fylgja/Access;" (some 0) with kind := .array 6 (.object "com/example/fylgja/fylgja/Access"), interfaces := #[8, 4], accessFlags := 1041 }

def heap : Heap := #[{ cls := 6, slots := #[.ref 2, .ref 3, .ref 4, .ref 5, .ref 6, .ref 7, .ref 8, .ref 9, .ref 10, .ref 11, .ref 12, .ref 13, .ref 14, .ref 15, .ref 16, .ref 17, .ref 18, .null, .null], vm := .statics 6 },
  { cls := 7, slots := #[.ref 19, .ref 20, .ref 21, .ref 22, .ref 23, .ref 24, .ref 25, .ref 26, .ref 27, .int 0, .null, .null], vm := .statics 7 },
  { cls := 6, slots := #[.null, .int 0, .int 0, .null, .ref 19], vm := .none },
  { cls := 6, slots := #[.null, .int 1, .int 0, .null, .ref 19], vm := .none },
  { cls := 6, slots := #[.null, .int 2, .int 0, .null, .ref 19], vm := .none },
  { cls := 6, slots := #[.null, .int 3, .int 0, .null, .ref 19], vm := .none },
  { cls := 6, slots := #[.null, .int 4, .int 0, .null, .ref 20], vm := .none },
  { cls := 6, slots := #[.null, .int 5, .int 0, .null, .ref 20], vm := .none },
  { cls := 6, slots := #[.null, .int 6, .int 0, .null, .ref 21], vm := .none },
  { cls := 6, slots := #[.null, .int 7, .int 0, .null, .ref 21], vm := .none },
  { cls := 6, slots := #[.null, .int 8, .int 0, .null, .ref 21], vm := .none },
  { cls := 6, slots := #[.null, .int 9, .int 0, .null, .ref 21], vm := .none },
  { cls := 6, slots := #[.null, .int 10, .int 0, .null, .ref 22], vm := .none },
  { cls := 6, slots := #[.null, .int 11, .int 0, .null, .ref 23], vm := .none },
  { cls := 6, slots := #[.null, .int 12, .int 0, .null, .ref 23], vm := .none },
  { cls := 6, slots := #[.null, .int 13, .int 0, .null, .ref 24], vm := .none },
  { cls := 6, slots := #[.null, .int 14, .int 0, .null, .ref 25], vm := .none },
  { cls := 6, slots := #[.null, .int 15, .int 0, .null, .ref 26], vm := .none },
  { cls := 6, slots := #[.null, .int 16, .int 0, .null, .ref 27], vm := .none },
  { cls := 7, slots := #[.null, .int 0, .int 0, .null, .int 0, .null], vm := .none },
  { cls := 7, slots := #[.null, .int 1, .int 0, .null, .int 0, .null], vm := .none },
  { cls := 7, slots := #[.null, .int 2, .int 0, .null, .int 0, .null], vm := .none },
  { cls := 7, slots := #[.null, .int 3, .int 0, .null, .int 0, .null], vm := .none },
  { cls := 7, slots := #[.null, .int 4, .int 0, .null, .int 0, .null], vm := .none },
  { cls := 7, slots := #[.null, .int 5, .int 0, .null, .int 0, .null], vm := .none },
  { cls := 7, slots := #[.null, .int 6, .int 0, .null, .int 0, .null], vm := .none },
  { cls := 7, slots := #[.null, .int 7, .int 0, .null, .int 0, .null], vm := .none },
  { cls := 7, slots := #[.null, .int 8, .int 0, .null, .int 0, .null], vm := .none }]
def classes : Array Class := #[k0, k1, k2, k3, k4, k5, k6, k7, k8, k9, k10, k11, k12, k13]
def interned : List (Array UInt16 × Addr) := []
def slotsUsed : Nat := 170
def theMethod : MethodId := ⟨1, 1⟩
def args0 : Array Value := #[.int 8]
def aboutOver (below : List Frame) : State where
  vm := { classes := classes, interned := interned.toArray }
  heap := heap
  slotsUsed := slotsUsed
  threads := #[{ frames := .invoking theMethod args0 :: below }]
def below0 : List Frame := [.native { method := ⟨0, 0⟩, args := #[] }]
def about1 : State := aboutOver below0
def p0 : Program := .bare "" "" ""
def e0 : Env := launch0.env 0 0 0
theorem w_frames : about1.frames = Frame.invoking theMethod args0 :: below0 := rfl
set_option maxRecDepth 65536 in
theorem w_args : argsFit about1.vm theMethod args0 = true := by decide +kernel
set_option maxRecDepth 65536 in
theorem w_heap : heapFits about1 = true := by decide +kernel
set_option maxRecDepth 65536 in
theorem w_runnable : about1.curStatus? = some .runnable := by decide +kernel
set_option maxRecDepth 65536 in
theorem w_alone : about1.alone = true := by decide +kernel
set_option maxRecDepth 65536 in
theorem w_named : about1.methodNamed? x = some theMethod := by decide +kernel
set_option maxRecDepth 65536 in
theorem w_hears : about1.hears theMethod below0 = true := by decide +kernel
set_option maxRecDepth 65536 in
theorem w_ripe : about1.ripe theMethod args0 below0 = true := by decide +kernel
theorem w_running : about1.status = .running := rfl
set_option maxRecDepth 65536 in
theorem w_room : about1.hasRoom e0.platform room_1 = true :=
  launch0.hasRoom_least _ room_1 (by decide +kernel) (by decide +kernel) (by decide +kernel) (by decide +kernel) (by decide +kernel) (by decide +kernel)
theorem allAtoms_all (ts : List Jvm.Cond) (a : Array Jvm.Value) (st : Jvm.State) : (allAtoms ts).before a st = ts.all (fun c => c.before a st) := by
  induction ts with
  | nil => rfl
  | cons c t ih =>
    show (Jvm.Cond.and c (allAtoms t)).before a st = _
    rw [Jvm.Cond.before_and, ih, List.all_cons]
def words1 : List Jvm.Cond := Jvm.Cond.code x code maxLocals ret :: tables_1
/-- a 'code' word, met by the world's own term for the bytes: nothing is compared byte by byte -/
theorem code_word {y : MethodName} {bytes : ByteArray} {mx : Nat} {rt : Option FieldType} {a : Array Value} {s : State} {m : MethodId} {meth : Method} {c : Code} (h1 : s.methodNamed? y = some m) (h2 : s.vm.method? m = some meth) (h3 : meth.code = some c) (h4 : c.code = bytes)
    (h5 : (c.maxLocals == mx && c.exceptionTable.isEmpty && decide (c.maxStack ≤ mostOperands) && decide (meth.sig.returnType = rt) && !meth.locks && decide (parseMethodDescriptor y.desc = some meth.sig)) = true) : (Jvm.Cond.code y bytes mx rt).before a s = true := by
  simp only [Bool.and_eq_true, beq_iff_eq, Bool.not_eq_true', decide_eq_true_eq] at h5
  obtain ⟨⟨⟨⟨⟨g1, g2⟩, g3⟩, g4⟩, g5⟩, g6⟩ := h5
  simp [Cond.before, Cond.holds, Cond.value, h1, h2, h3, h4, g1, g2, g3, g4, g5, g6]
def isCode : Jvm.Cond → Bool
  | .code _ _ _ _ => true
  | _ => false
theorem all_split {L : List Jvm.Cond} {P : Jvm.Cond → Bool} (h1 : L.all (fun c => isCode c || P c) = true) (h2 : ∀ c ∈ L.filter isCode, P c = true) : L.all P = true := by
  refine List.all_eq_true.mpr fun c hc => ?_
  have h := List.all_eq_true.mp h1 c hc
  rcases Bool.eq_false_or_eq_true (isCode c) with hi | hi
  · exact h2 c (List.mem_filter.mpr ⟨hc, hi⟩)
  · simpa [hi] using h
set_option maxRecDepth 65536 in
theorem w_c0 : (Jvm.Cond.code x code maxLocals ret).before args0 about1 = true := code_word (m := ⟨1, 1⟩) (meth := k1m1) (c := k1c1) (by decide +kernel) rfl rfl rfl (by decide +kernel)
set_option maxRecDepth 65536 in
theorem w_c1 : (Jvm.Cond.code ({ cls := "com/example/fylgja/fylgja/Access", name := "namesPort", desc := "()Z" } : Jvm.MethodName) prog_1_method_7_code (1 : Nat) (Option.some Jvm.ClassFile.FieldType.boolean)).before args0 about1 = true := code_word (m := ⟨6, 1⟩) (meth := k6m1) (c := k6c1) (by decide +kernel) rfl rfl rfl (by decide +kernel)
set_option maxRecDepth 65536 in
theorem w_c2 : (Jvm.Cond.code ({ cls := "com/example/fylgja/fylgja/Access", name := "kind", desc := "()Lcom/example/fylgja/fylgja/ResourceKind;" } : Jvm.MethodName) prog_1_method_6_code (1 : Nat) (Option.some (Jvm.ClassFile.FieldType.object "com/example/fylgja/fylgja/ResourceKind"))).before args0 about1 = true := code_word (m := ⟨6, 0⟩) (meth := k6m0) (c := k6c0) (by decide +kernel) rfl rfl rfl (by decide +kernel)
def codes1 : List Jvm.Cond := [Jvm.Cond.code x code maxLocals ret, Jvm.Cond.code ({ cls := "com/example/fylgja/fylgja/Access", name := "namesPort", desc := "()Z" } : Jvm.MethodName) prog_1_method_7_code (1 : Nat) (Option.some Jvm.ClassFile.FieldType.boolean), Jvm.Cond.code ({ cls := "com/example/fylgja/fylgja/Access", name := "kind", desc := "()Lcom/example/fylgja/fylgja/ResourceKind;" } : Jvm.MethodName) prog_1_method_6_code (1 : Nat) (Option.some (Jvm.ClassFile.FieldType.object "com/example/fylgja/fylgja/ResourceKind"))]
set_option maxRecDepth 65536 in
theorem codes_eq : words1.filter isCode = codes1 := rfl
theorem w_codes : ∀ c ∈ words1.filter isCode, c.before args0 about1 = true := by
  rw [codes_eq]
  intro c hc
  simp only [codes1, List.mem_cons, List.not_mem_nil, or_false] at hc
  rcases hc with rfl | rfl | rfl
  · exact w_c0
  · exact w_c1
  · exact w_c2
set_option maxRecDepth 65536 in
theorem w_t1 : (words1.take 24).all (fun c => isCode c || c.before args0 about1) = true := by decide +kernel
set_option maxRecDepth 65536 in
theorem w_t2 : ((words1.drop 24).take 24).all (fun c => isCode c || c.before args0 about1) = true := by decide +kernel
set_option maxRecDepth 65536 in
theorem w_t3 : ((words1.drop 24).drop 24).all (fun c => isCode c || c.before args0 about1) = true := by decide +kernel
theorem w_tables : (allAtoms (Jvm.Cond.code x code maxLocals ret :: tables_1)).before args0 about1 = true := by
  rw [allAtoms_all]
  show words1.all (fun c => c.before args0 about1) = true
  refine all_split ?_ w_codes
  rw [← List.take_append_drop 24 words1, List.all_append, w_t1, ← List.take_append_drop 24 (words1.drop 24), List.all_append, w_t2, w_t3]
  rfl
set_option maxRecDepth 65536 in
theorem w_case : (Jvm.Cond.and given_1 narrow_1).before args0 about1 = true := by decide +kernel
theorem w_applies : (headSpec (Jvm.Cond.code x code maxLocals ret :: tables_1) room_1).applies x e0.platform about1 = true :=
  (Spec.applies_iff w_frames).mpr ⟨w_running, w_runnable, w_alone, w_named, w_hears, w_ripe, w_room, w_tables⟩
theorem atStart : AtStart classFile x code maxLocals ret World_1 tables_1 room_1 Calls_1 rest_1 Pre_1 launch0 p0 e0 about1 theMethod args0 below0 :=
  ⟨lists_1, trivial, launch0.admits_env _ _ _, launch0.least_env, fairChoices_fair.cas, fairChoices_fair.clock, w_frames, w_args, w_heap, w_applies, trivial, trivial, w_case⟩
end start1
theorem witness_1 : WitnessClaimed_1 := ⟨start1.p0, start1.e0, start1.about1, start1.theMethod, start1.args0, start1.below0, start1.atStart⟩
end Jvm.Pilot.@@N@@
