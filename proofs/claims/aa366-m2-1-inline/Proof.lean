import JvmDerived
import JvmDerived.Pilot.@@N@@Statement
import JvmDerived.Pilot.@@N@@Code
set_option linter.unusedVariables false
set_option linter.unusedSimpArgs false
namespace Jvm.Pilot.@@N@@
open Jvm Jvm.ClassFile Sem Op Lib Jvm.Free Jvm.Stand Jvm.LawKit Jvm.RoadKit Bundle Jvm.Pilot.@@N@@.Jvm.D
section OwnKit
variable {p : Program} {l : Launch} {e : Env} {R : Room} {s : State} {m : MethodId} {args : Array Value} {below : List Frame} {meth : Method} {c : Code} {T T' : State} {locs : List Loc} {cells slots : Nat} {P : Outcome → State → Prop} {Q : Option Value → Heap → List Loc → Prop} {cC cS : Nat} {bytes : ByteArray} {ls : Array Slot} {st : List Value} {pc pc' : Nat} {g g' : JFrame} {Z : State} {a0 : Array Value} {h h' : Heap}
/-- from this state and frame the method comes to its end, returns, and Q holds of what it leaves -/
def own_Got (p : Program) (e : Env) (below : List Frame) (P : Outcome → State → Prop) (T : State) (g : JFrame) : Prop :=
  ∃ s₂ o, Steps p.tables e below (T.setTop g) s₂ ∧ s₂.status = .running ∧ Ended s₂ below o ∧ P o s₂
/-- what a contract says of the end -/
def own_End (s : State) (Q : Option Value → Heap → List Loc → Prop) (cC cS : Nat) (o : Outcome) (U : State) : Prop := ∃ v L, o = .returned v ∧ Q v U.heap L ∧ FrameEnd s o U L cC cS
theorem own_go (k : ∀ t, Steps p.tables e below (T'.setTop g') t → Steps p.tables e below (T.setTop g) t) (h : own_Got p e below P T' g') : own_Got p e below P T g := by
  obtain ⟨s2, o, h1, h2⟩ := h; exact ⟨s2, o, k _ h1, h2⟩
theorem own_tr (k : Steps p.tables e below (T.setTop g) (T'.setTop g')) (h : own_Got p e below P T' g') : own_Got p e below P T g := own_go (fun _ q => k.trans q) h
theorem own_cast (q : g = g') (h : own_Got p e below P T g') : own_Got p e below P T g := q ▸ h
theorem own_retV (X : Stand p l e R s m args below meth c T locs cells slots) (hx : p.tables.exec = Jvm.exec) (hby : c.code = bytes) (hlk : meth.locks = false) (hret : meth.sig.returnType = none) (hd : decode bytes pc = .ok (.return_, 1)) (hc : cells ≤ cC) (hs : slots ≤ cS)
    (hq : Q none T.heap locs) : own_Got p e below (own_End s Q cC cS) T (mkF m pc ls []) := by
  obtain ⟨fs, hr, hrun, hended, hW, hsame⟩ := X.leave (v := none) (fun _ => rfl) hlk
  exact ⟨_, _, X.returnOut hx hret (hb hby hd) hr, hrun, hended, _, _, rfl, hq, ⟨_, rfl⟩, hW, hsame.mono hc hs⟩
theorem own_retI (X : Stand p l e R s m args below meth c T locs cells slots) (hx : p.tables.exec = Jvm.exec) (hby : c.code = bytes) (hlk : meth.locks = false) (hret : meth.sig.returnType = some .int) (hd : decode bytes pc = .ok (.ireturn, 1)) (hc : cells ≤ cC) (hs : slots ≤ cS) {z : Int32}
    (hq : Q (some (.int z)) T.heap locs) : own_Got p e below (own_End s Q cC cS) T (mkF m pc ls (.int z :: st)) := by
  obtain ⟨fs, hr, hrun, hended, hW, hsame⟩ := X.leave (v := some (.int z)) (fun h => by rw [hret] at h; cases h) hlk
  exact ⟨_, _, retOut X hx hret rfl (Or.inl ⟨rfl, Or.inl rfl, _, rfl⟩) (hb hby hd) hr, hrun, hended, _, _, rfl, hq, ⟨_, rfl⟩, hW, hsame.mono hc hs⟩
theorem own_retL (X : Stand p l e R s m args below meth c T locs cells slots) (hx : p.tables.exec = Jvm.exec) (hby : c.code = bytes) (hlk : meth.locks = false) (hret : meth.sig.returnType = some .long) (hd : decode bytes pc = .ok (.lreturn, 1)) (hc : cells ≤ cC) (hs : slots ≤ cS) {z : Int64}
    (hq : Q (some (.long z)) T.heap locs) : own_Got p e below (own_End s Q cC cS) T (mkF m pc ls (.long z :: st)) := by
  obtain ⟨fs, hr, hrun, hended, hW, hsame⟩ := X.leave (v := some (.long z)) (fun h => by rw [hret] at h; cases h) hlk
  exact ⟨_, _, retOut X hx hret rfl (Or.inr (Or.inl ⟨rfl, rfl, _, rfl⟩)) (hb hby hd) hr, hrun, hended, _, _, rfl, hq, ⟨_, rfl⟩, hW, hsame.mono hc hs⟩
theorem own_retD (X : Stand p l e R s m args below meth c T locs cells slots) (hx : p.tables.exec = Jvm.exec) (hby : c.code = bytes) (hlk : meth.locks = false) (hret : meth.sig.returnType = some .double) (hd : decode bytes pc = .ok (.dreturn, 1)) (hc : cells ≤ cC) (hs : slots ≤ cS) {z : UInt64}
    (hq : Q (some (.double z)) T.heap locs) : own_Got p e below (own_End s Q cC cS) T (mkF m pc ls (.double z :: st)) := by
  obtain ⟨fs, hr, hrun, hended, hW, hsame⟩ := X.leave (v := some (.double z)) (fun h => by rw [hret] at h; cases h) hlk
  exact ⟨_, _, retOut X hx hret rfl (Or.inr (Or.inr (Or.inl ⟨rfl, rfl, _, rfl⟩))) (hb hby hd) hr, hrun, hended, _, _, rfl, hq, ⟨_, rfl⟩, hW, hsame.mono hc hs⟩
theorem own_retN (X : Stand p l e R s m args below meth c T locs cells slots) (hx : p.tables.exec = Jvm.exec) (hby : c.code = bytes) (hlk : meth.locks = false) {t : FieldType} (hret : meth.sig.returnType = some t) (ht : t = .boolean ∨ t = .byte ∨ t = .char ∨ t = .short) (hd : decode bytes pc = .ok (.ireturn, 1)) (hc : cells ≤ cC) (hs : slots ≤ cS) {z : Int32}
    (hq : Q (some (.int (nar t z))) T.heap locs) : own_Got p e below (own_End s Q cC cS) T (mkF m pc ls (.int z :: st)) := by
  obtain ⟨fs, hr, hrun, hended, hW, hsame⟩ := X.leave (v := some (.int (nar t z))) (fun h => by rw [hret] at h; cases h) hlk
  exact ⟨_, _, retN X hx hret ht (hb hby hd) hr, hrun, hended, _, _, rfl, hq, ⟨_, rfl⟩, hW, hsame.mono hc hs⟩
theorem own_retR (X : Stand p l e R s m args below meth c T locs cells slots) (hx : p.tables.exec = Jvm.exec) (hby : c.code = bytes) (hlk : meth.locks = false) {t : FieldType} (hret : meth.sig.returnType = some t) (ht : t.isReference = true) (hd : decode bytes pc = .ok (.areturn, 1)) (hc : cells ≤ cC) (hs : slots ≤ cS) {w : Value} (hw : w.isRef = true)
    (hq : Q (some w) T.heap locs) : own_Got p e below (own_End s Q cC cS) T (mkF m pc ls (w :: st)) := by
  obtain ⟨fs, hr, hrun, hended, hW, hsame⟩ := X.leave (v := some w) (fun h => by rw [hret] at h; cases h) hlk
  have hn : narrow t w = w := by rcases ref_cases hw with rfl | ⟨a, rfl⟩ <;> cases t <;> first | rfl | (cases ht)
  exact ⟨_, _, retOut X hx hret hn (Or.inr (Or.inr (Or.inr (Or.inr ⟨rfl, ht, hw⟩)))) (hb hby hd) hr, hrun, hended, _, _, rfl, hq, ⟨_, rfl⟩, hW, hsame.mono hc hs⟩
theorem g_iloadN (X : Stand p l e R s m args below meth c T locs cells slots) (hx : p.tables.exec = Jvm.exec) (hby : c.code = bytes) {k : Fin 4} {v : Int32} (hd : decode bytes pc = .ok (.iload_n k, 1)) (hl : ls[k.val]? = some (.val (.int v))) (hp : pc + 1 = pc')
    (k : own_Got p e below P T (mkF m pc' ls (.int v :: st))) : own_Got p e below P T (mkF m pc ls (st)) := by
  subst hp; exact own_go (fun _ q => XS.iloadN X.here hx rfl (hb hby hd) hl q) k
theorem g_iload (X : Stand p l e R s m args below meth c T locs cells slots) (hx : p.tables.exec = Jvm.exec) (hby : c.code = bytes) {k : Nat} {v : Int32} (hd : decode bytes pc = .ok (.iload k, 2)) (hl : ls[k]? = some (.val (.int v))) (hp : pc + 2 = pc')
    (k : own_Got p e below P T (mkF m pc' ls (.int v :: st))) : own_Got p e below P T (mkF m pc ls (st)) := by
  subst hp; exact own_go (fun _ q => XS.iload X.here hx rfl (hb hby hd) hl q) k
theorem g_lloadN (X : Stand p l e R s m args below meth c T locs cells slots) (hx : p.tables.exec = Jvm.exec) (hby : c.code = bytes) {k : Fin 4} {v : Int64} (hd : decode bytes pc = .ok (.lload_n k, 1)) (hl : ls[k.val]? = some (.val (.long v))) (hp : pc + 1 = pc')
    (k : own_Got p e below P T (mkF m pc' ls (.long v :: st))) : own_Got p e below P T (mkF m pc ls (st)) := by
  subst hp; exact own_go (fun _ q => XS.lloadN X.here hx rfl (hb hby hd) hl q) k
theorem g_lload (X : Stand p l e R s m args below meth c T locs cells slots) (hx : p.tables.exec = Jvm.exec) (hby : c.code = bytes) {k : Nat} {v : Int64} (hd : decode bytes pc = .ok (.lload k, 2)) (hl : ls[k]? = some (.val (.long v))) (hp : pc + 2 = pc')
    (k : own_Got p e below P T (mkF m pc' ls (.long v :: st))) : own_Got p e below P T (mkF m pc ls (st)) := by
  subst hp; exact own_go (fun _ q => XS.lload X.here hx rfl (hb hby hd) hl q) k
theorem g_dloadN (X : Stand p l e R s m args below meth c T locs cells slots) (hx : p.tables.exec = Jvm.exec) (hby : c.code = bytes) {k : Fin 4} {v : UInt64} (hd : decode bytes pc = .ok (.dload_n k, 1)) (hl : ls[k.val]? = some (.val (.double v))) (hp : pc + 1 = pc')
    (k : own_Got p e below P T (mkF m pc' ls (.double v :: st))) : own_Got p e below P T (mkF m pc ls (st)) := by
  subst hp; exact own_go (fun _ q => XS.dloadN X.here hx rfl (hb hby hd) hl q) k
theorem g_dload (X : Stand p l e R s m args below meth c T locs cells slots) (hx : p.tables.exec = Jvm.exec) (hby : c.code = bytes) {k : Nat} {v : UInt64} (hd : decode bytes pc = .ok (.dload k, 2)) (hl : ls[k]? = some (.val (.double v))) (hp : pc + 2 = pc')
    (k : own_Got p e below P T (mkF m pc' ls (.double v :: st))) : own_Got p e below P T (mkF m pc ls (st)) := by
  subst hp; exact own_go (fun _ q => XS.dload X.here hx rfl (hb hby hd) hl q) k
theorem g_aloadN (X : Stand p l e R s m args below meth c T locs cells slots) (hx : p.tables.exec = Jvm.exec) (hby : c.code = bytes) {k : Fin 4} {v : Value} (hd : decode bytes pc = .ok (.aload_n k, 1)) (hl : ls[k.val]? = some (.val v)) (hv : v.isRef = true) (hp : pc + 1 = pc')
    (k : own_Got p e below P T (mkF m pc' ls (v :: st))) : own_Got p e below P T (mkF m pc ls (st)) := by
  subst hp; exact own_go (fun _ q => XS.aloadN X.here hx rfl (hb hby hd) hl hv q) k
theorem g_aload (X : Stand p l e R s m args below meth c T locs cells slots) (hx : p.tables.exec = Jvm.exec) (hby : c.code = bytes) {k : Nat} {v : Value} (hd : decode bytes pc = .ok (.aload k, 2)) (hl : ls[k]? = some (.val v)) (hv : v.isRef = true) (hp : pc + 2 = pc')
    (k : own_Got p e below P T (mkF m pc' ls (v :: st))) : own_Got p e below P T (mkF m pc ls (st)) := by
  subst hp; exact own_go (fun _ q => XS.aload X.here hx rfl (hb hby hd) hl hv q) k
theorem g_istoreN (X : Stand p l e R s m args below meth c T locs cells slots) (hx : p.tables.exec = Jvm.exec) (hby : c.code = bytes) {k : Fin 4} {x : Int32} (ls' : Array Slot) (hd : decode bytes pc = .ok (.istore_n k, 1)) (hl : storeLocals ls k.val (.int x) = some ls') (hp : pc + 1 = pc')
    (k : own_Got p e below P T (mkF m pc' ls' (st))) : own_Got p e below P T (mkF m pc ls (.int x :: st)) := by
  subst hp; exact own_go (fun _ q => XS.istoreN X.here hx rfl (hb hby hd) rfl hl q) k
theorem g_istore (X : Stand p l e R s m args below meth c T locs cells slots) (hx : p.tables.exec = Jvm.exec) (hby : c.code = bytes) {k : Nat} {x : Int32} (ls' : Array Slot) (hd : decode bytes pc = .ok (.istore k, 2)) (hl : storeLocals ls k (.int x) = some ls') (hp : pc + 2 = pc')
    (k : own_Got p e below P T (mkF m pc' ls' (st))) : own_Got p e below P T (mkF m pc ls (.int x :: st)) := by
  subst hp; exact own_go (fun _ q => XS.istore X.here hx rfl (hb hby hd) rfl hl q) k
theorem g_lstoreN (X : Stand p l e R s m args below meth c T locs cells slots) (hx : p.tables.exec = Jvm.exec) (hby : c.code = bytes) {k : Fin 4} {x : Int64} (ls' : Array Slot) (hd : decode bytes pc = .ok (.lstore_n k, 1)) (hl : storeLocals ls k.val (.long x) = some ls') (hp : pc + 1 = pc')
    (k : own_Got p e below P T (mkF m pc' ls' (st))) : own_Got p e below P T (mkF m pc ls (.long x :: st)) := by
  subst hp; exact own_go (fun _ q => XS.lstoreN X.here hx rfl (hb hby hd) rfl hl q) k
theorem g_lstore (X : Stand p l e R s m args below meth c T locs cells slots) (hx : p.tables.exec = Jvm.exec) (hby : c.code = bytes) {k : Nat} {x : Int64} (ls' : Array Slot) (hd : decode bytes pc = .ok (.lstore k, 2)) (hl : storeLocals ls k (.long x) = some ls') (hp : pc + 2 = pc')
    (k : own_Got p e below P T (mkF m pc' ls' (st))) : own_Got p e below P T (mkF m pc ls (.long x :: st)) := by
  subst hp; exact own_go (fun _ q => XS.lstore X.here hx rfl (hb hby hd) rfl hl q) k
theorem g_dstoreN (X : Stand p l e R s m args below meth c T locs cells slots) (hx : p.tables.exec = Jvm.exec) (hby : c.code = bytes) {k : Fin 4} {x : UInt64} (ls' : Array Slot) (hd : decode bytes pc = .ok (.dstore_n k, 1)) (hl : storeLocals ls k.val (.double x) = some ls') (hp : pc + 1 = pc')
    (k : own_Got p e below P T (mkF m pc' ls' (st))) : own_Got p e below P T (mkF m pc ls (.double x :: st)) := by
  subst hp; exact own_go (fun _ q => XS.dstoreN X.here hx rfl (hb hby hd) rfl hl q) k
theorem g_dstore (X : Stand p l e R s m args below meth c T locs cells slots) (hx : p.tables.exec = Jvm.exec) (hby : c.code = bytes) {k : Nat} {x : UInt64} (ls' : Array Slot) (hd : decode bytes pc = .ok (.dstore k, 2)) (hl : storeLocals ls k (.double x) = some ls') (hp : pc + 2 = pc')
    (k : own_Got p e below P T (mkF m pc' ls' (st))) : own_Got p e below P T (mkF m pc ls (.double x :: st)) := by
  subst hp; exact own_go (fun _ q => XS.dstore X.here hx rfl (hb hby hd) rfl hl q) k
theorem g_astoreN (X : Stand p l e R s m args below meth c T locs cells slots) (hx : p.tables.exec = Jvm.exec) (hby : c.code = bytes) {k : Fin 4} {x : Value} (ls' : Array Slot) (hd : decode bytes pc = .ok (.astore_n k, 1)) (hv : x.isRef = true) (hl : storeLocals ls k.val x = some ls') (hp : pc + 1 = pc')
    (k : own_Got p e below P T (mkF m pc' ls' (st))) : own_Got p e below P T (mkF m pc ls (x :: st)) := by
  subst hp; exact own_go (fun _ q => XS.astoreN X.here hx rfl (hb hby hd) rfl hv hl q) k
theorem g_astore (X : Stand p l e R s m args below meth c T locs cells slots) (hx : p.tables.exec = Jvm.exec) (hby : c.code = bytes) {k : Nat} {x : Value} (ls' : Array Slot) (hd : decode bytes pc = .ok (.astore k, 2)) (hv : x.isRef = true) (hl : storeLocals ls k x = some ls') (hp : pc + 2 = pc')
    (k : own_Got p e below P T (mkF m pc' ls' (st))) : own_Got p e below P T (mkF m pc ls (x :: st)) := by
  subst hp; exact own_go (fun _ q => XS.astore X.here hx rfl (hb hby hd) rfl hv hl q) k
theorem g_iconst (X : Stand p l e R s m args below meth c T locs cells slots) (hx : p.tables.exec = Jvm.exec) (hby : c.code = bytes) {i : Int} (z : Int32) (hd : decode bytes pc = .ok (.iconst i, 1)) (hz : Int32.ofInt i = z) (hp : pc + 1 = pc')
    (k : own_Got p e below P T (mkF m pc' ls (.int z :: st))) : own_Got p e below P T (mkF m pc ls (st)) := by
  subst hp; subst hz; exact own_go (fun _ q => XS.iconst X.here hx rfl (hb hby hd) q) k
theorem g_bipush (X : Stand p l e R s m args below meth c T locs cells slots) (hx : p.tables.exec = Jvm.exec) (hby : c.code = bytes) {i : Int} (z : Int32) (hd : decode bytes pc = .ok (.bipush i, 2)) (hz : (Int8.ofInt i).toInt32 = z) (hp : pc + 2 = pc')
    (k : own_Got p e below P T (mkF m pc' ls (.int z :: st))) : own_Got p e below P T (mkF m pc ls (st)) := by
  subst hp; subst hz; exact own_go (fun _ q => XS.bipush X.here hx rfl (hb hby hd) q) k
theorem g_sipush (X : Stand p l e R s m args below meth c T locs cells slots) (hx : p.tables.exec = Jvm.exec) (hby : c.code = bytes) {i : Int} (z : Int32) (hd : decode bytes pc = .ok (.sipush i, 3)) (hz : (Int16.ofInt i).toInt32 = z) (hp : pc + 3 = pc')
    (k : own_Got p e below P T (mkF m pc' ls (.int z :: st))) : own_Got p e below P T (mkF m pc ls (st)) := by
  subst hp; subst hz; exact own_go (fun _ q => XS.sipush X.here hx rfl (hb hby hd) q) k
theorem g_lconst (X : Stand p l e R s m args below meth c T locs cells slots) (hx : p.tables.exec = Jvm.exec) (hby : c.code = bytes) {i : Fin 2} (z : Int64) (hd : decode bytes pc = .ok (.lconst i, 1)) (hz : Int64.ofNat i.val = z) (hp : pc + 1 = pc')
    (k : own_Got p e below P T (mkF m pc' ls (.long z :: st))) : own_Got p e below P T (mkF m pc ls (st)) := by
  subst hp; subst hz; exact own_go (fun _ q => XS.lconst X.here hx rfl (hb hby hd) q) k
theorem g_anull (X : Stand p l e R s m args below meth c T locs cells slots) (hx : p.tables.exec = Jvm.exec) (hby : c.code = bytes)  (hd : decode bytes pc = .ok (.aconst_null, 1))  (hp : pc + 1 = pc')
    (k : own_Got p e below P T (mkF m pc' ls (.null :: st))) : own_Got p e below P T (mkF m pc ls (st)) := by
  subst hp; exact own_go (fun _ q => XS.aconstNull X.here hx rfl (hb hby hd) q) k
theorem g_iadd (X : Stand p l e R s m args below meth c T locs cells slots) (hx : p.tables.exec = Jvm.exec) (hby : c.code = bytes) {x y : Int32} (hd : decode bytes pc = .ok (.iadd, 1))  (hp : pc + 1 = pc')
    (k : own_Got p e below P T (mkF m pc' ls (.int (x + y) :: st))) : own_Got p e below P T (mkF m pc ls (.int y :: .int x :: st)) := by
  subst hp; exact own_go (fun _ q => XS.iadd X.here hx rfl (hb hby hd) rfl q) k
theorem g_isub (X : Stand p l e R s m args below meth c T locs cells slots) (hx : p.tables.exec = Jvm.exec) (hby : c.code = bytes) {x y : Int32} (hd : decode bytes pc = .ok (.isub, 1))  (hp : pc + 1 = pc')
    (k : own_Got p e below P T (mkF m pc' ls (.int (x - y) :: st))) : own_Got p e below P T (mkF m pc ls (.int y :: .int x :: st)) := by
  subst hp; exact own_go (fun _ q => XS.isub X.here hx rfl (hb hby hd) rfl q) k
theorem g_iand (X : Stand p l e R s m args below meth c T locs cells slots) (hx : p.tables.exec = Jvm.exec) (hby : c.code = bytes) {x y : Int32} (hd : decode bytes pc = .ok (.iand, 1))  (hp : pc + 1 = pc')
    (k : own_Got p e below P T (mkF m pc' ls (.int (x &&& y) :: st))) : own_Got p e below P T (mkF m pc ls (.int y :: .int x :: st)) := by
  subst hp; exact own_go (fun _ q => XS.iand X.here hx rfl (hb hby hd) rfl q) k
theorem g_ior (X : Stand p l e R s m args below meth c T locs cells slots) (hx : p.tables.exec = Jvm.exec) (hby : c.code = bytes) {x y : Int32} (hd : decode bytes pc = .ok (.ior, 1))  (hp : pc + 1 = pc')
    (k : own_Got p e below P T (mkF m pc' ls (.int (x ||| y) :: st))) : own_Got p e below P T (mkF m pc ls (.int y :: .int x :: st)) := by
  subst hp; exact own_go (fun _ q => XS.ior X.here hx rfl (hb hby hd) rfl q) k
theorem g_ixor (X : Stand p l e R s m args below meth c T locs cells slots) (hx : p.tables.exec = Jvm.exec) (hby : c.code = bytes) {x y : Int32} (hd : decode bytes pc = .ok (.ixor, 1))  (hp : pc + 1 = pc')
    (k : own_Got p e below P T (mkF m pc' ls (.int (x ^^^ y) :: st))) : own_Got p e below P T (mkF m pc ls (.int y :: .int x :: st)) := by
  subst hp; exact own_go (fun _ q => XS.ixor X.here hx rfl (hb hby hd) rfl q) k
theorem g_imul (X : Stand p l e R s m args below meth c T locs cells slots) (hx : p.tables.exec = Jvm.exec) (hby : c.code = bytes) {x y : Int32} (hd : decode bytes pc = .ok (.imul, 1))  (hp : pc + 1 = pc')
    (k : own_Got p e below P T (mkF m pc' ls (.int (x * y) :: st))) : own_Got p e below P T (mkF m pc ls (.int y :: .int x :: st)) := by
  subst hp; exact own_go (fun _ q => XS.imul X.here hx rfl (hb hby hd) rfl q) k
theorem g_ladd (X : Stand p l e R s m args below meth c T locs cells slots) (hx : p.tables.exec = Jvm.exec) (hby : c.code = bytes) {x y : Int64} (hd : decode bytes pc = .ok (.ladd, 1))  (hp : pc + 1 = pc')
    (k : own_Got p e below P T (mkF m pc' ls (.long (x + y) :: st))) : own_Got p e below P T (mkF m pc ls (.long y :: .long x :: st)) := by
  subst hp; exact own_go (fun _ q => XS.ladd X.here hx rfl (hb hby hd) rfl q) k
theorem g_lsub (X : Stand p l e R s m args below meth c T locs cells slots) (hx : p.tables.exec = Jvm.exec) (hby : c.code = bytes) {x y : Int64} (hd : decode bytes pc = .ok (.lsub, 1))  (hp : pc + 1 = pc')
    (k : own_Got p e below P T (mkF m pc' ls (.long (x - y) :: st))) : own_Got p e below P T (mkF m pc ls (.long y :: .long x :: st)) := by
  subst hp; exact own_go (fun _ q => XS.lsub X.here hx rfl (hb hby hd) rfl q) k
theorem g_land (X : Stand p l e R s m args below meth c T locs cells slots) (hx : p.tables.exec = Jvm.exec) (hby : c.code = bytes) {x y : Int64} (hd : decode bytes pc = .ok (.land, 1))  (hp : pc + 1 = pc')
    (k : own_Got p e below P T (mkF m pc' ls (.long (x &&& y) :: st))) : own_Got p e below P T (mkF m pc ls (.long y :: .long x :: st)) := by
  subst hp; exact own_go (fun _ q => XS.land X.here hx rfl (hb hby hd) rfl q) k
theorem g_lor (X : Stand p l e R s m args below meth c T locs cells slots) (hx : p.tables.exec = Jvm.exec) (hby : c.code = bytes) {x y : Int64} (hd : decode bytes pc = .ok (.lor, 1))  (hp : pc + 1 = pc')
    (k : own_Got p e below P T (mkF m pc' ls (.long (x ||| y) :: st))) : own_Got p e below P T (mkF m pc ls (.long y :: .long x :: st)) := by
  subst hp; exact own_go (fun _ q => XS.lor X.here hx rfl (hb hby hd) rfl q) k
theorem g_lxor (X : Stand p l e R s m args below meth c T locs cells slots) (hx : p.tables.exec = Jvm.exec) (hby : c.code = bytes) {x y : Int64} (hd : decode bytes pc = .ok (.lxor, 1))  (hp : pc + 1 = pc')
    (k : own_Got p e below P T (mkF m pc' ls (.long (x ^^^ y) :: st))) : own_Got p e below P T (mkF m pc ls (.long y :: .long x :: st)) := by
  subst hp; exact own_go (fun _ q => XS.lxor X.here hx rfl (hb hby hd) rfl q) k
theorem g_lmul (X : Stand p l e R s m args below meth c T locs cells slots) (hx : p.tables.exec = Jvm.exec) (hby : c.code = bytes) {x y : Int64} (hd : decode bytes pc = .ok (.lmul, 1))  (hp : pc + 1 = pc')
    (k : own_Got p e below P T (mkF m pc' ls (.long (x * y) :: st))) : own_Got p e below P T (mkF m pc ls (.long y :: .long x :: st)) := by
  subst hp; exact own_go (fun _ q => XS.lmul X.here hx rfl (hb hby hd) rfl q) k
theorem g_idiv (X : Stand p l e R s m args below meth c T locs cells slots) (hx : p.tables.exec = Jvm.exec) (hby : c.code = bytes) {x y : Int32} (hd : decode bytes pc = .ok (.idiv, 1)) (hy : y ≠ 0) (hp : pc + 1 = pc')
    (k : own_Got p e below P T (mkF m pc' ls (.int (x / y) :: st))) : own_Got p e below P T (mkF m pc ls (.int y :: .int x :: st)) := by
  subst hp; exact own_go (fun _ q => XS.idiv X.here hx rfl (hb hby hd) rfl hy q) k
theorem g_irem (X : Stand p l e R s m args below meth c T locs cells slots) (hx : p.tables.exec = Jvm.exec) (hby : c.code = bytes) {x y : Int32} (hd : decode bytes pc = .ok (.irem, 1)) (hy : y ≠ 0) (hp : pc + 1 = pc')
    (k : own_Got p e below P T (mkF m pc' ls (.int (x % y) :: st))) : own_Got p e below P T (mkF m pc ls (.int y :: .int x :: st)) := by
  subst hp; exact own_go (fun _ q => iremM X hx rfl (hb hby hd) rfl hy q) k
theorem g_ishl (X : Stand p l e R s m args below meth c T locs cells slots) (hx : p.tables.exec = Jvm.exec) (hby : c.code = bytes) {x y : Int32} (hd : decode bytes pc = .ok (.ishl, 1))  (hp : pc + 1 = pc')
    (k : own_Got p e below P T (mkF m pc' ls (.int (x <<< (y &&& 31)) :: st))) : own_Got p e below P T (mkF m pc ls (.int y :: .int x :: st)) := by
  subst hp; exact own_go (fun _ q => XS.ishl X.here hx rfl (hb hby hd) rfl q) k
theorem g_ishr (X : Stand p l e R s m args below meth c T locs cells slots) (hx : p.tables.exec = Jvm.exec) (hby : c.code = bytes) {x y : Int32} (hd : decode bytes pc = .ok (.ishr, 1))  (hp : pc + 1 = pc')
    (k : own_Got p e below P T (mkF m pc' ls (.int (x >>> (y &&& 31)) :: st))) : own_Got p e below P T (mkF m pc ls (.int y :: .int x :: st)) := by
  subst hp; exact own_go (fun _ q => XS.ishr X.here hx rfl (hb hby hd) rfl q) k
theorem g_iushr (X : Stand p l e R s m args below meth c T locs cells slots) (hx : p.tables.exec = Jvm.exec) (hby : c.code = bytes) {x y : Int32} (hd : decode bytes pc = .ok (.iushr, 1))  (hp : pc + 1 = pc')
    (k : own_Got p e below P T (mkF m pc' ls (.int ((x.toUInt32 >>> (y &&& 31).toUInt32).toInt32) :: st))) : own_Got p e below P T (mkF m pc ls (.int y :: .int x :: st)) := by
  subst hp; exact own_go (fun _ q => XS.iushr X.here hx rfl (hb hby hd) rfl q) k
theorem g_ineg (X : Stand p l e R s m args below meth c T locs cells slots) (hx : p.tables.exec = Jvm.exec) (hby : c.code = bytes) {x : Int32} (hd : decode bytes pc = .ok (.ineg, 1))  (hp : pc + 1 = pc')
    (k : own_Got p e below P T (mkF m pc' ls (.int (-x) :: st))) : own_Got p e below P T (mkF m pc ls (.int x :: st)) := by
  subst hp; exact own_go (fun _ q => XS.ineg X.here hx rfl (hb hby hd) rfl q) k
theorem g_i2b (X : Stand p l e R s m args below meth c T locs cells slots) (hx : p.tables.exec = Jvm.exec) (hby : c.code = bytes) {x : Int32} (hd : decode bytes pc = .ok (.i2b, 1))  (hp : pc + 1 = pc')
    (k : own_Got p e below P T (mkF m pc' ls (.int x.toInt8.toInt32 :: st))) : own_Got p e below P T (mkF m pc ls (.int x :: st)) := by
  subst hp; exact own_go (fun _ q => XS.i2b X.here hx rfl (hb hby hd) rfl q) k
theorem g_i2s (X : Stand p l e R s m args below meth c T locs cells slots) (hx : p.tables.exec = Jvm.exec) (hby : c.code = bytes) {x : Int32} (hd : decode bytes pc = .ok (.i2s, 1))  (hp : pc + 1 = pc')
    (k : own_Got p e below P T (mkF m pc' ls (.int x.toInt16.toInt32 :: st))) : own_Got p e below P T (mkF m pc ls (.int x :: st)) := by
  subst hp; exact own_go (fun _ q => XS.i2s X.here hx rfl (hb hby hd) rfl q) k
theorem g_i2c (X : Stand p l e R s m args below meth c T locs cells slots) (hx : p.tables.exec = Jvm.exec) (hby : c.code = bytes) {x : Int32} (hd : decode bytes pc = .ok (.i2c, 1))  (hp : pc + 1 = pc')
    (k : own_Got p e below P T (mkF m pc' ls (.int x.toUInt32.toUInt16.toUInt32.toInt32 :: st))) : own_Got p e below P T (mkF m pc ls (.int x :: st)) := by
  subst hp; exact own_go (fun _ q => XS.i2c X.here hx rfl (hb hby hd) rfl q) k
theorem g_i2l (X : Stand p l e R s m args below meth c T locs cells slots) (hx : p.tables.exec = Jvm.exec) (hby : c.code = bytes) {x : Int32} (hd : decode bytes pc = .ok (.i2l, 1))  (hp : pc + 1 = pc')
    (k : own_Got p e below P T (mkF m pc' ls (.long x.toInt64 :: st))) : own_Got p e below P T (mkF m pc ls (.int x :: st)) := by
  subst hp; exact own_go (fun _ q => XS.i2l X.here hx rfl (hb hby hd) rfl q) k
theorem g_lcmp (X : Stand p l e R s m args below meth c T locs cells slots) (hx : p.tables.exec = Jvm.exec) (hby : c.code = bytes) {x y : Int64} (hd : decode bytes pc = .ok (.lcmp, 1))  (hp : pc + 1 = pc')
    (k : own_Got p e below P T (mkF m pc' ls (.int (lcmpW x y) :: st))) : own_Got p e below P T (mkF m pc ls (.long y :: .long x :: st)) := by
  subst hp; exact own_go (fun _ q => XS.lcmp X.here hx rfl (hb hby hd) rfl q) k
theorem g_iinc (X : Stand p l e R s m args below meth c T locs cells slots) (hx : p.tables.exec = Jvm.exec) (hby : c.code = bytes) {k : Nat} {cst : Int} {x : Int32} (ls' : Array Slot) (hd : decode bytes pc = .ok (.iinc k cst, 3)) (hl : ls[k]? = some (.val (.int x))) (hl' : storeLocals ls k (.int (x + Int32.ofInt cst)) = some ls') (hp : pc + 3 = pc')
    (k : own_Got p e below P T (mkF m pc' ls' (st))) : own_Got p e below P T (mkF m pc ls (st)) := by
  subst hp; exact own_go (fun _ q => XS.iinc X.here hx rfl (hb hby hd) hl hl' q) k
theorem g_dup (X : Stand p l e R s m args below meth c T locs cells slots) (hx : p.tables.exec = Jvm.exec) (hby : c.code = bytes) {x : Value} (hd : decode bytes pc = .ok (.dup, 1)) (hc : x.category = 1) (hp : pc + 1 = pc')
    (k : own_Got p e below P T (mkF m pc' ls (x :: x :: st))) : own_Got p e below P T (mkF m pc ls (x :: st)) := by
  subst hp; exact own_go (fun _ q => XS.dup X.here hx rfl (hb hby hd) rfl hc q) k
theorem g_dupX1 (X : Stand p l e R s m args below meth c T locs cells slots) (hx : p.tables.exec = Jvm.exec) (hby : c.code = bytes) {x y : Value} (hd : decode bytes pc = .ok (.dup_x1, 1)) (hc : x.category = 1) (hc2 : y.category = 1) (hp : pc + 1 = pc')
    (k : own_Got p e below P T (mkF m pc' ls (x :: y :: x :: st))) : own_Got p e below P T (mkF m pc ls (x :: y :: st)) := by
  subst hp; exact own_go (fun _ q => XS.dupX1 X.here hx rfl (hb hby hd) rfl hc hc2 q) k
theorem g_pop (X : Stand p l e R s m args below meth c T locs cells slots) (hx : p.tables.exec = Jvm.exec) (hby : c.code = bytes) {x : Value} (hd : decode bytes pc = .ok (.pop, 1)) (hc : x.category = 1) (hp : pc + 1 = pc')
    (k : own_Got p e below P T (mkF m pc' ls (st))) : own_Got p e below P T (mkF m pc ls (x :: st)) := by
  subst hp; exact own_go (fun _ q => XS.pop X.here hx rfl (hb hby hd) rfl hc q) k
theorem g_dup2 (X : Stand p l e R s m args below meth c T locs cells slots) (hx : p.tables.exec = Jvm.exec) (hby : c.code = bytes) {x y : Value} (hd : decode bytes pc = .ok (.dup2, 1)) (hc : x.category = 1) (hc2 : y.category = 1) (hp : pc + 1 = pc')
    (k : own_Got p e below P T (mkF m pc' ls (x :: y :: x :: y :: st))) : own_Got p e below P T (mkF m pc ls (x :: y :: st)) := by
  subst hp; exact own_go (fun _ q => XT.dup2 X.here hx rfl (hb hby hd) rfl hc hc2 q) k
theorem g_goto (X : Stand p l e R s m args below meth c T locs cells slots) (hx : p.tables.exec = Jvm.exec) (hby : c.code = bytes) {o : Int} (hd : decode bytes pc = .ok (.goto o, 3))  (ho : 0 ≤ (pc : Int) + o) (hp : ((pc : Int) + o).toNat = pc')
    (k : own_Got p e below P T (mkF m pc' ls (st))) : own_Got p e below P T (mkF m pc ls (st)) := by
  exact own_go (fun _ q => XS.goto X.here hx rfl rfl (hb hby hd) ho hp q) k
theorem g_ifT (X : Stand p l e R s m args below meth c T locs cells slots) (hx : p.tables.exec = Jvm.exec) (hby : c.code = bytes) {cd : ClassFile.Cond} {x : Int32} {o : Int} (hd : decode bytes pc = .ok (.ifCond cd o, 3)) (hc : ifCond.holds cd x = true) (ho : 0 ≤ (pc : Int) + o) (hp : ((pc : Int) + o).toNat = pc')
    (k : own_Got p e below P T (mkF m pc' ls (st))) : own_Got p e below P T (mkF m pc ls (.int x :: st)) := by
  exact own_go (fun _ q => XS.ifYes X.here hx rfl rfl (hb hby hd) rfl hc ho hp q) k
theorem g_icT (X : Stand p l e R s m args below meth c T locs cells slots) (hx : p.tables.exec = Jvm.exec) (hby : c.code = bytes) {cd : ClassFile.Cond} {x y : Int32} {o : Int} (hd : decode bytes pc = .ok (.if_icmp cd o, 3)) (hc : if_icmp.holds cd x y = true) (ho : 0 ≤ (pc : Int) + o) (hp : ((pc : Int) + o).toNat = pc')
    (k : own_Got p e below P T (mkF m pc' ls (st))) : own_Got p e below P T (mkF m pc ls (.int y :: .int x :: st)) := by
  exact own_go (fun _ q => XS.icmpYes X.here hx rfl rfl (hb hby hd) rfl hc ho hp q) k
theorem g_inT (X : Stand p l e R s m args below meth c T locs cells slots) (hx : p.tables.exec = Jvm.exec) (hby : c.code = bytes) {o : Int} (hd : decode bytes pc = .ok (.ifnull o, 3))  (ho : 0 ≤ (pc : Int) + o) (hp : ((pc : Int) + o).toNat = pc')
    (k : own_Got p e below P T (mkF m pc' ls (st))) : own_Got p e below P T (mkF m pc ls (.null :: st)) := by
  exact own_go (fun _ q => XS.ifnullYes X.here hx rfl rfl (hb hby hd) rfl ho hp q) k
theorem g_innT (X : Stand p l e R s m args below meth c T locs cells slots) (hx : p.tables.exec = Jvm.exec) (hby : c.code = bytes) {b : Addr} {o : Int} (hd : decode bytes pc = .ok (.ifnonnull o, 3))  (ho : 0 ≤ (pc : Int) + o) (hp : ((pc : Int) + o).toNat = pc')
    (k : own_Got p e below P T (mkF m pc' ls (st))) : own_Got p e below P T (mkF m pc ls (.ref b :: st)) := by
  exact own_go (fun _ q => XS.ifnonnullYes X.here hx rfl rfl (hb hby hd) rfl ho hp q) k
theorem g_ifF (X : Stand p l e R s m args below meth c T locs cells slots) (hx : p.tables.exec = Jvm.exec) (hby : c.code = bytes) {cd : ClassFile.Cond} {o : Int} {x : Int32} (hd : decode bytes pc = .ok (.ifCond cd o, 3)) (hc : ifCond.holds cd x = false) (hp : pc + 3 = pc')
    (k : own_Got p e below P T (mkF m pc' ls (st))) : own_Got p e below P T (mkF m pc ls (.int x :: st)) := by
  subst hp; exact own_go (fun _ q => XS.ifNo X.here hx rfl (hb hby hd) rfl hc q) k
theorem g_icF (X : Stand p l e R s m args below meth c T locs cells slots) (hx : p.tables.exec = Jvm.exec) (hby : c.code = bytes) {cd : ClassFile.Cond} {o : Int} {x y : Int32} (hd : decode bytes pc = .ok (.if_icmp cd o, 3)) (hc : if_icmp.holds cd x y = false) (hp : pc + 3 = pc')
    (k : own_Got p e below P T (mkF m pc' ls (st))) : own_Got p e below P T (mkF m pc ls (.int y :: .int x :: st)) := by
  subst hp; exact own_go (fun _ q => XS.icmpNo X.here hx rfl (hb hby hd) rfl hc q) k
theorem g_inF (X : Stand p l e R s m args below meth c T locs cells slots) (hx : p.tables.exec = Jvm.exec) (hby : c.code = bytes) {o : Int} {b : Addr} (hd : decode bytes pc = .ok (.ifnull o, 3))  (hp : pc + 3 = pc')
    (k : own_Got p e below P T (mkF m pc' ls (st))) : own_Got p e below P T (mkF m pc ls (.ref b :: st)) := by
  subst hp; exact own_go (fun _ q => XS.ifnullNo X.here hx rfl (hb hby hd) rfl q) k
theorem g_innF (X : Stand p l e R s m args below meth c T locs cells slots) (hx : p.tables.exec = Jvm.exec) (hby : c.code = bytes) {o : Int} (hd : decode bytes pc = .ok (.ifnonnull o, 3))  (hp : pc + 3 = pc')
    (k : own_Got p e below P T (mkF m pc' ls (st))) : own_Got p e below P T (mkF m pc ls (.null :: st)) := by
  subst hp; exact own_go (fun _ q => XS.ifnonnullNo X.here hx rfl (hb hby hd) rfl q) k
theorem g_acmp (X : Stand p l e R s m args below meth c T locs cells slots) (hx : p.tables.exec = Jvm.exec) (hby : c.code = bytes) {cd : ACond} {x y : Value} {o : Int} (same : Bool) (hd : decode bytes pc = .ok (.if_acmp cd o, 3)) (h1 : x.isRef = true) (h2 : y.isRef = true) (hq : decide (x = y) = same) (ho : 0 ≤ (pc : Int) + o) (hp : pc' = if acV cd same = true then ((pc : Int) + o).toNat else pc + 3)
    (k : own_Got p e below P T (mkF m pc' ls st)) : own_Got p e below P T (mkF m pc ls (y :: x :: st)) :=
  own_go (fun _ q => Jvm.RoadKit.acmp X hx rfl h1 h2 rfl (hb hby hd) rfl hq ho hp q) k
theorem g_ldcI (X : Stand p l e R s m args below meth c T locs cells slots) (hx : p.tables.exec = Jvm.exec) (hby : c.code = bytes) (hZ : Z.Warmed39 s.vm) {own : String} {index : Nat} {v : Int32} (hown : s.vm.findClass own = some m.cls) (w : (Cond.constant own index v).before a0 Z = true) (hd : decode bytes pc = .ok (.ldc index, 2)) (hp : pc + 2 = pc')
    (k : own_Got p e below P T (mkF m pc' ls (.int v :: st))) : own_Got p e below P T (mkF m pc ls st) := by
  subst hp; exact own_go (X.ldcInt hx hown (mvT hZ w) rfl (hb hby hd)) k
theorem g_ldc2D (X : Stand p l e R s m args below meth c T locs cells slots) (hx : p.tables.exec = Jvm.exec) (hby : c.code = bytes) (hZ : Z.Warmed39 s.vm) {own : String} {index : Nat} {v : UInt64} (hown : s.vm.findClass own = some m.cls) (w : (Cond.constantDouble own index v).before a0 Z = true) (hd : decode bytes pc = .ok (.ldc2_w index, 3)) (hp : pc + 3 = pc')
    (k : own_Got p e below P T (mkF m pc' ls (.double v :: st))) : own_Got p e below P T (mkF m pc ls st) := by
  subst hp; exact own_go (X.ldc2DoubleC hx hown (mvT hZ w) rfl (hb hby hd)) k
theorem g_alen (X : Stand p l e R s m args below meth c T locs cells slots) (hx : p.tables.exec = Jvm.exec) (hby : c.code = bytes) (hZ : Z.Warmed39 s.vm) (eT : T.heap = h) {a : Addr} {kk : ClassId} {ty : FieldType} {n : Int32} {vs : List Value} {d : Value} (F : Arv Z h a kk ty n vs d) (hd : decode bytes pc = .ok (.arraylength, 1)) (hp : pc + 1 = pc')
    (k : own_Got p e below P T (mkF m pc' ls (.int n :: st))) : own_Got p e below P T (mkF m pc ls (.ref a :: st)) := by
  subst hp
  obtain ⟨cl, Ar, -, S, N, -, -⟩ := F
  refine own_go (fun t q => X.arraylength hx (by rw [eT]; exact Ar.1) (State.isArrayOf_alike hZ.alike Ar.2.1) (g := mkF m pc ls (.ref a :: st)) rfl rfl (hb hby hd) t q) ?_
  rw [len_of S N]; exact k
theorem g_iaload (X : Stand p l e R s m args below meth c T locs cells slots) (hx : p.tables.exec = Jvm.exec) (hby : c.code = bytes) (hZ : Z.Warmed39 s.vm) (eT : T.heap = h) {a : Addr} {kk : ClassId} {n : Int32} {vs : List Value} {d v : Value} {j : Int32} (F : Arv Z h a kk .int n vs d) (hj : ¬ j < 0 ∧ j < n) (hv : vs.getD j.toNatClampNeg d = v) (hd : decode bytes pc = .ok (.iaload, 1)) (hp : pc + 1 = pc')
    (k : own_Got p e below P T (mkF m pc' ls (v :: st))) : own_Got p e below P T (mkF m pc ls (.int j :: .ref a :: st)) := by
  subst hp
  obtain ⟨cl, Ar, -, S, N, H, -⟩ := F
  exact own_go (fun t q => X.iaload hx (by rw [eT]; exact Ar.1) (State.isArrayOf_alike hZ.alike Ar.2.1) Ar.2.2 (inb_of S hj) (H.at (inb_of S hj) hv) (g := mkF m pc ls (.int j :: .ref a :: st)) rfl rfl (hb hby hd) t q) k
theorem g_caload (X : Stand p l e R s m args below meth c T locs cells slots) (hx : p.tables.exec = Jvm.exec) (hby : c.code = bytes) (hZ : Z.Warmed39 s.vm) (eT : T.heap = h) {a : Addr} {kk : ClassId} {n : Int32} {vs : List Value} {d v : Value} {j : Int32} (F : Arv Z h a kk .char n vs d) (hj : ¬ j < 0 ∧ j < n) (hv : vs.getD j.toNatClampNeg d = v) (hd : decode bytes pc = .ok (.caload, 1)) (hp : pc + 1 = pc')
    (k : own_Got p e below P T (mkF m pc' ls (v :: st))) : own_Got p e below P T (mkF m pc ls (.int j :: .ref a :: st)) := by
  subst hp
  obtain ⟨cl, Ar, -, S, N, H, -⟩ := F
  exact own_go (fun t q => X.caload hx (by rw [eT]; exact Ar.1) (State.isArrayOf_alike hZ.alike Ar.2.1) Ar.2.2 (inb_of S hj) (H.at (inb_of S hj) hv) (g := mkF m pc ls (.int j :: .ref a :: st)) rfl rfl (hb hby hd) t q) k
theorem g_laload (X : Stand p l e R s m args below meth c T locs cells slots) (hx : p.tables.exec = Jvm.exec) (hby : c.code = bytes) (hZ : Z.Warmed39 s.vm) (eT : T.heap = h) {a : Addr} {kk : ClassId} {n : Int32} {vs : List Value} {d v : Value} {j : Int32} (F : Arv Z h a kk .long n vs d) (hj : ¬ j < 0 ∧ j < n) (hv : vs.getD j.toNatClampNeg d = v) (hd : decode bytes pc = .ok (.laload, 1)) (hp : pc + 1 = pc')
    (k : own_Got p e below P T (mkF m pc' ls (v :: st))) : own_Got p e below P T (mkF m pc ls (.int j :: .ref a :: st)) := by
  subst hp
  obtain ⟨cl, Ar, -, S, N, H, -⟩ := F
  exact own_go (fun t q => X.laload hx (by rw [eT]; exact Ar.1) (State.isArrayOf_alike hZ.alike Ar.2.1) Ar.2.2 (inb_of S hj) (H.at (inb_of S hj) hv) (g := mkF m pc ls (.int j :: .ref a :: st)) rfl rfl (hb hby hd) t q) k
theorem g_baload (X : Stand p l e R s m args below meth c T locs cells slots) (hx : p.tables.exec = Jvm.exec) (hby : c.code = bytes) (hZ : Z.Warmed39 s.vm) (eT : T.heap = h) {a : Addr} {kk : ClassId} {n : Int32} {vs : List Value} {d v : Value} {j : Int32} (F : Arv Z h a kk .byte n vs d) (hj : ¬ j < 0 ∧ j < n) (hv : vs.getD j.toNatClampNeg d = v) (hd : decode bytes pc = .ok (.baload, 1)) (hp : pc + 1 = pc')
    (k : own_Got p e below P T (mkF m pc' ls (v :: st))) : own_Got p e below P T (mkF m pc ls (.int j :: .ref a :: st)) := by
  subst hp
  obtain ⟨cl, Ar, -, S, N, H, -⟩ := F
  exact own_go (fun t q => X.baloadBytes hx (by rw [eT]; exact Ar.1) (State.isArrayOf_alike hZ.alike Ar.2.1) Ar.2.2 (inb_of S hj) (H.at (inb_of S hj) hv) (g := mkF m pc ls (.int j :: .ref a :: st)) rfl rfl (hb hby hd) t q) k
theorem g_daload (X : Stand p l e R s m args below meth c T locs cells slots) (hx : p.tables.exec = Jvm.exec) (hby : c.code = bytes) (hZ : Z.Warmed39 s.vm) (eT : T.heap = h) {a : Addr} {kk : ClassId} {n : Int32} {vs : List Value} {d v : Value} {j : Int32} (F : Arv Z h a kk .double n vs d) (hj : ¬ j < 0 ∧ j < n) (hv : vs.getD j.toNatClampNeg d = v) (hd : decode bytes pc = .ok (.daload, 1)) (hp : pc + 1 = pc')
    (k : own_Got p e below P T (mkF m pc' ls (v :: st))) : own_Got p e below P T (mkF m pc ls (.int j :: .ref a :: st)) := by
  subst hp
  obtain ⟨cl, Ar, -, S, N, H, -⟩ := F
  exact own_go (fun t q => X.daload hx (by rw [eT]; exact Ar.1) (State.isArrayOf_alike hZ.alike Ar.2.1) Ar.2.2 (inb_of S hj) (H.at (inb_of S hj) hv) (g := mkF m pc ls (.int j :: .ref a :: st)) rfl rfl (hb hby hd) t q) k
theorem g_aaload (X : Stand p l e R s m args below meth c T locs cells slots) (hx : p.tables.exec = Jvm.exec) (hby : c.code = bytes) (hZ : Z.Warmed39 s.vm) (eT : T.heap = h) {a : Addr} {kk : ClassId} {ty : FieldType} {n : Int32} {vs : List Value} {d v : Value} {j : Int32} (F : Arv Z h a kk ty n vs d) (ht : ty.isReference = true) (hj : ¬ j < 0 ∧ j < n) (hv : vs.getD j.toNatClampNeg d = v) (hd : decode bytes pc = .ok (.aaload, 1)) (hp : pc + 1 = pc')
    (k : own_Got p e below P T (mkF m pc' ls (v :: st))) : own_Got p e below P T (mkF m pc ls (.int j :: .ref a :: st)) := by
  subst hp
  obtain ⟨cl, Ar, -, S, N, H, -⟩ := F
  exact own_go (fun t q => X.aaload hx (by rw [eT]; exact Ar.1) (State.isArrayOf_alike hZ.alike Ar.2.1) ht Ar.2.2 (inb_of S hj) (H.at (inb_of S hj) hv) (g := mkF m pc ls (.int j :: .ref a :: st)) rfl rfl (hb hby hd) t q) k
theorem a_iastore (X : Stand p l e R s m args below meth c T locs cells slots) (hx : p.tables.exec = Jvm.exec) (hby : c.code = bytes) (hZ : Z.Warmed39 s.vm) (eT : T.heap = h) {a : Addr} {kk : ClassId} {n : Int32} {vs : List Value} {d : Value} {j : Int32} (x : Int32) (i : Nat) (F : Arv Z h a kk .int n vs d) (hj : ¬ j < 0 ∧ j < n) (hi : j.toNatClampNeg = i) (hl : i < vs.length) (hd : decode bytes pc = .ok (.iastore, 1)) :
    ∃ T' h', Stand p l e R s m args below meth c T' (locs ++ [⟨a, j.toNatClampNeg⟩]) cells slots ∧ T'.heap = h' ∧ Wr h h' a j.toNatClampNeg (.int x) ∧ Arv Z h' a kk .int n (vs.set i (.int x)) d ∧ ∀ t, Steps p.tables e below (T'.setTop (mkF m (pc + 1) ls st)) t → Steps p.tables e below (T.setTop (mkF m pc ls (.int x :: .int j :: .ref a :: st))) t := by
  obtain ⟨cl, Ar, q1, S, N, H, Gf⟩ := F
  obtain ⟨T', h', X', e', W, k⟩ := stI X hx hZ eT Ar (j := j) (inb_of S hj) (g := mkF m pc ls (.int x :: .int j :: .ref a :: st)) rfl rfl (hb hby hd)
  exact ⟨T', h', X', e', W, Arv.set Ar q1 S N H Gf (rfl) W i hi hl, k⟩
theorem a_castore (X : Stand p l e R s m args below meth c T locs cells slots) (hx : p.tables.exec = Jvm.exec) (hby : c.code = bytes) (hZ : Z.Warmed39 s.vm) (eT : T.heap = h) {a : Addr} {kk : ClassId} {n : Int32} {vs : List Value} {d : Value} {j : Int32} (x : Int32) (i : Nat) (F : Arv Z h a kk .char n vs d) (hj : ¬ j < 0 ∧ j < n) (hi : j.toNatClampNeg = i) (hl : i < vs.length) (hd : decode bytes pc = .ok (.castore, 1)) :
    ∃ T' h', Stand p l e R s m args below meth c T' (locs ++ [⟨a, j.toNatClampNeg⟩]) cells slots ∧ T'.heap = h' ∧ Wr h h' a j.toNatClampNeg (.int (nar .char x)) ∧ Arv Z h' a kk .char n (vs.set i (.int (nar .char x))) d ∧ ∀ t, Steps p.tables e below (T'.setTop (mkF m (pc + 1) ls st)) t → Steps p.tables e below (T.setTop (mkF m pc ls (.int x :: .int j :: .ref a :: st))) t := by
  obtain ⟨cl, Ar, q1, S, N, H, Gf⟩ := F
  obtain ⟨T', h', X', e', W, k⟩ := stC X hx hZ eT Ar (j := j) (inb_of S hj) (g := mkF m pc ls (.int x :: .int j :: .ref a :: st)) rfl rfl (hb hby hd)
  exact ⟨T', h', X', e', W, Arv.set Ar q1 S N H Gf (fits_nar_char _) W i hi hl, k⟩
theorem a_bastore (X : Stand p l e R s m args below meth c T locs cells slots) (hx : p.tables.exec = Jvm.exec) (hby : c.code = bytes) (hZ : Z.Warmed39 s.vm) (eT : T.heap = h) {a : Addr} {kk : ClassId} {n : Int32} {vs : List Value} {d : Value} {j : Int32} (x : Int32) (i : Nat) (F : Arv Z h a kk .byte n vs d) (hj : ¬ j < 0 ∧ j < n) (hi : j.toNatClampNeg = i) (hl : i < vs.length) (hd : decode bytes pc = .ok (.bastore, 1)) :
    ∃ T' h', Stand p l e R s m args below meth c T' (locs ++ [⟨a, j.toNatClampNeg⟩]) cells slots ∧ T'.heap = h' ∧ Wr h h' a j.toNatClampNeg (.int (nar .byte x)) ∧ Arv Z h' a kk .byte n (vs.set i (.int (nar .byte x))) d ∧ ∀ t, Steps p.tables e below (T'.setTop (mkF m (pc + 1) ls st)) t → Steps p.tables e below (T.setTop (mkF m pc ls (.int x :: .int j :: .ref a :: st))) t := by
  obtain ⟨cl, Ar, q1, S, N, H, Gf⟩ := F
  obtain ⟨T', h', X', e', W, k⟩ := stB X hx hZ eT Ar (j := j) (inb_of S hj) (g := mkF m pc ls (.int x :: .int j :: .ref a :: st)) rfl rfl (hb hby hd)
  exact ⟨T', h', X', e', W, Arv.set Ar q1 S N H Gf (fits_nar_byte _) W i hi hl, k⟩
theorem a_lastore (X : Stand p l e R s m args below meth c T locs cells slots) (hx : p.tables.exec = Jvm.exec) (hby : c.code = bytes) (hZ : Z.Warmed39 s.vm) (eT : T.heap = h) {a : Addr} {kk : ClassId} {n : Int32} {vs : List Value} {d : Value} {j : Int32} (x : Int64) (i : Nat) (F : Arv Z h a kk .long n vs d) (hj : ¬ j < 0 ∧ j < n) (hi : j.toNatClampNeg = i) (hl : i < vs.length) (hd : decode bytes pc = .ok (.lastore, 1)) :
    ∃ T' h', Stand p l e R s m args below meth c T' (locs ++ [⟨a, j.toNatClampNeg⟩]) cells slots ∧ T'.heap = h' ∧ Wr h h' a j.toNatClampNeg (.long x) ∧ Arv Z h' a kk .long n (vs.set i (.long x)) d ∧ ∀ t, Steps p.tables e below (T'.setTop (mkF m (pc + 1) ls st)) t → Steps p.tables e below (T.setTop (mkF m pc ls (.long x :: .int j :: .ref a :: st))) t := by
  obtain ⟨cl, Ar, q1, S, N, H, Gf⟩ := F
  obtain ⟨T', h', X', e', W, k⟩ := stJ X hx hZ eT Ar (j := j) (inb_of S hj) (g := mkF m pc ls (.long x :: .int j :: .ref a :: st)) rfl rfl (hb hby hd)
  exact ⟨T', h', X', e', W, Arv.set Ar q1 S N H Gf (rfl) W i hi hl, k⟩
theorem a_dastore (X : Stand p l e R s m args below meth c T locs cells slots) (hx : p.tables.exec = Jvm.exec) (hby : c.code = bytes) (hZ : Z.Warmed39 s.vm) (eT : T.heap = h) {a : Addr} {kk : ClassId} {n : Int32} {vs : List Value} {d : Value} {j : Int32} (x : UInt64) (i : Nat) (F : Arv Z h a kk .double n vs d) (hj : ¬ j < 0 ∧ j < n) (hi : j.toNatClampNeg = i) (hl : i < vs.length) (hd : decode bytes pc = .ok (.dastore, 1)) :
    ∃ T' h', Stand p l e R s m args below meth c T' (locs ++ [⟨a, j.toNatClampNeg⟩]) cells slots ∧ T'.heap = h' ∧ Wr h h' a j.toNatClampNeg (.double x) ∧ Arv Z h' a kk .double n (vs.set i (.double x)) d ∧ ∀ t, Steps p.tables e below (T'.setTop (mkF m (pc + 1) ls st)) t → Steps p.tables e below (T.setTop (mkF m pc ls (.double x :: .int j :: .ref a :: st))) t := by
  obtain ⟨cl, Ar, q1, S, N, H, Gf⟩ := F
  obtain ⟨T', h', X', e', W, k⟩ := stD X hx hZ eT Ar (j := j) (inb_of S hj) (g := mkF m pc ls (.double x :: .int j :: .ref a :: st)) rfl rfl (hb hby hd)
  exact ⟨T', h', X', e', W, Arv.set Ar q1 S N H Gf (rfl) W i hi hl, k⟩
theorem a_aastore (X : Stand p l e R s m args below meth c T locs cells slots) (hx : p.tables.exec = Jvm.exec) (hby : c.code = bytes) (hZ : Z.Warmed39 s.vm) (eT : T.heap = h) {a b : Addr} {kk : ClassId} {Cn : String} {n : Int32} {vs : List Value} {d : Value} {j : Int32} (i : Nat) (F : Arv Z h a kk (.object Cn) n vs d) (O : Ovr Z kk Cn) (I : Ins Z h b Cn true) (hj : ¬ j < 0 ∧ j < n) (hi : j.toNatClampNeg = i) (hl : i < vs.length) (hd : decode bytes pc = .ok (.aastore, 1)) :
    ∃ T' h', Stand p l e R s m args below meth c T' (locs ++ [⟨a, j.toNatClampNeg⟩]) cells slots ∧ T'.heap = h' ∧ Wr h h' a j.toNatClampNeg (.ref b) ∧ Arv Z h' a kk (.object Cn) n (vs.set i (.ref b)) d ∧ ∀ t, Steps p.tables e below (T'.setTop (mkF m (pc + 1) ls st)) t → Steps p.tables e below (T.setTop (mkF m pc ls (.ref b :: .int j :: .ref a :: st))) t := by
  obtain ⟨cl, Ar, q1, S, N, H, Gf⟩ := F
  obtain ⟨T', h', X', e', W, k⟩ := stR X hx hZ eT Ar (j := j) (inb_of S hj) rfl (Sto.ofV Ar q1 O I) (g := mkF m pc ls (.ref b :: .int j :: .ref a :: st)) rfl rfl (hb hby hd)
  exact ⟨T', h', X', e', W, Arv.set Ar q1 S N H Gf rfl W i hi hl, k⟩
theorem own_stakeep {C n d : String} {v : Value} {K : String} {a : Addr} (F : Sta Z h C n d v) (k : Keep h h' [a]) (E : Exa Z h a K) : Sta Z h' C n d v := by
  obtain ⟨cf, i, kk, f, st, cell, h1, h2, h3, h4, h5, h6, h7⟩ := F
  refine ⟨cf, i, kk, f, st, cell, h1, h2, h3, h4, k.2.1 _ _ h5 (fun q => ?_), h6, h7⟩
  obtain ⟨c2, k2, g1, -, -, g4, -⟩ := E
  cases List.mem_singleton.mp q
  cases h5.symm.trans g1
  rw [g4] at h6; cases h6
theorem own_stakeep2 {C n d : String} {v : Value} {K K' : String} {a b : Addr} (F : Sta Z h C n d v) (k : Keep h h' [a, b]) (E : Exa Z h a K) (E' : Exa Z h b K') : Sta Z h' C n d v := by
  obtain ⟨cf, i, kk, f, st, cell, h1, h2, h3, h4, h5, h6, h7⟩ := F
  refine ⟨cf, i, kk, f, st, cell, h1, h2, h3, h4, k.2.1 _ _ h5 (fun q => ?_), h6, h7⟩
  rcases List.mem_cons.mp q with q | q
  · obtain ⟨c2, k2, g1, -, -, g4, -⟩ := E
    subst q
    cases h5.symm.trans g1
    rw [g4] at h6; cases h6
  · obtain ⟨c2, k2, g1, -, -, g4, -⟩ := E'
    cases List.mem_singleton.mp q
    cases h5.symm.trans g1
    rw [g4] at h6; cases h6
theorem own_stakeep0 {C n d : String} {v : Value} (F : Sta Z h C n d v) (k : Keep h h' []) : Sta Z h' C n d v := by
  obtain ⟨cf, i, kk, f, st, cell, h1, h2, h3, h4, h5, h6, h7⟩ := F
  exact ⟨cf, i, kk, f, st, cell, h1, h2, h3, h4, k.2.1 _ _ h5 nin0, h6, h7⟩
theorem own_eqI {t : Term} {first : State} {o : Option Outcome} {idx : List Nat} {z : Int32} (hq : (Cond.eq t (.int z)).value args first o s idx = some true) : t.eval args first o idx s = some (.int z) := by
  obtain ⟨x, y, hx, hy, kk, -⟩ := cmp_v (Or.inl hq)
  have hy' : y = .int z := Option.some.inj (hy.symm.trans rfl)
  subst hy'
  cases x with
  | int x => simp only [Cond.value, hx, hy] at hq; simp at hq; rw [hx, hq]
  | _ => simp [Kin, Value.isRef] at kk
theorem own_eqR {t u : Term} {first : State} {o : Option Outcome} {idx : List Nat} {b : Addr} (hq : (Cond.eq t u).value args first o s idx = some true) (hu : u.eval args first o idx s = some (.ref b)) : t.eval args first o idx s = some (.ref b) := by
  obtain ⟨x, y, hx, hy, kk, kk2⟩ := cmp_v (Or.inl hq)
  cases hu.symm.trans hy
  have hr : x.isRef = true := kk2.2
  have := gotT (eq_R hx hu hr rfl) hq
  rw [hx, this]
theorem g_i2d (X : Stand p l e R s m args below meth c T locs cells slots) (hx : p.tables.exec = Jvm.exec) (hby : c.code = bytes) {x : Int32} (hd : decode bytes pc = .ok (.i2d, 1))  (hp : pc + 1 = pc')
    (k : own_Got p e below P T (mkF m pc' ls (.double (FP.i2d x) :: st))) : own_Got p e below P T (mkF m pc ls (.int x :: st)) := by
  subst hp; exact own_go (fun _ q => XS.i2dS X.here hx rfl (hb hby hd) rfl rfl q) k
theorem g_dcmp (X : Stand p l e R s m args below meth c T locs cells slots) (hx : p.tables.exec = Jvm.exec) (hby : c.code = bytes) {o : CmpOp} {x y : UInt64} (hd : decode bytes pc = .ok (.dcmp o, 1))  (hp : pc + 1 = pc')
    (k : own_Got p e below P T (mkF m pc' ls (.int (cmpValue (FP.dcmp x y) o) :: st))) : own_Got p e below P T (mkF m pc ls (.double y :: .double x :: st)) := by
  subst hp; exact own_go (fun _ q => XS.dcmpS X.here hx rfl (hb hby hd) rfl rfl q) k
theorem g_dconst0 (X : Stand p l e R s m args below meth c T locs cells slots) (hx : p.tables.exec = Jvm.exec) (hby : c.code = bytes) (z : UInt64) (hd : decode bytes pc = .ok (.dconst 0, 1)) (hz : FP.dconst0 = z) (hp : pc + 1 = pc')
    (k : own_Got p e below P T (mkF m pc' ls (.double z :: st))) : own_Got p e below P T (mkF m pc ls (st)) := by
  subst hp; exact own_go (fun _ q => XS.dconst0 X.here hx rfl (hb hby hd) hz q) k
theorem g_dadd (X : Stand p l e R s m args below meth c T locs cells slots) (hx : p.tables.exec = Jvm.exec) (hby : c.code = bytes) {x y : UInt64} (hd : decode bytes pc = .ok (.dadd, 1)) (hn : Jvm.Free.Fl.NoNaN64 (FP.dadd x y)) (hp : pc + 1 = pc')
    (k : own_Got p e below P T (mkF m pc' ls (.double (FP.dadd x y) :: st))) : own_Got p e below P T (mkF m pc ls (.double y :: .double x :: st)) := by
  subst hp; exact own_go (fun _ q => XS.daddS X.here hx rfl (hb hby hd) rfl hn rfl q) k
theorem g_dsub (X : Stand p l e R s m args below meth c T locs cells slots) (hx : p.tables.exec = Jvm.exec) (hby : c.code = bytes) {x y : UInt64} (hd : decode bytes pc = .ok (.dsub, 1)) (hn : Jvm.Free.Fl.NoNaN64 (FP.dsub x y)) (hp : pc + 1 = pc')
    (k : own_Got p e below P T (mkF m pc' ls (.double (FP.dsub x y) :: st))) : own_Got p e below P T (mkF m pc ls (.double y :: .double x :: st)) := by
  subst hp; exact own_go (fun _ q => XS.dsubS X.here hx rfl (hb hby hd) rfl hn rfl q) k
theorem g_dmul (X : Stand p l e R s m args below meth c T locs cells slots) (hx : p.tables.exec = Jvm.exec) (hby : c.code = bytes) {x y : UInt64} (hd : decode bytes pc = .ok (.dmul, 1)) (hn : Jvm.Free.Fl.NoNaN64 (FP.dmul x y)) (hp : pc + 1 = pc')
    (k : own_Got p e below P T (mkF m pc' ls (.double (FP.dmul x y) :: st))) : own_Got p e below P T (mkF m pc ls (.double y :: .double x :: st)) := by
  subst hp; exact own_go (fun _ q => XS.dmulS X.here hx rfl (hb hby hd) rfl hn rfl q) k
theorem g_ddiv (X : Stand p l e R s m args below meth c T locs cells slots) (hx : p.tables.exec = Jvm.exec) (hby : c.code = bytes) {x y : UInt64} (hd : decode bytes pc = .ok (.ddiv, 1)) (hn : Jvm.Free.Fl.NoNaN64 (FP.ddiv x y)) (hp : pc + 1 = pc')
    (k : own_Got p e below P T (mkF m pc' ls (.double (FP.ddiv x y) :: st))) : own_Got p e below P T (mkF m pc ls (.double y :: .double x :: st)) := by
  subst hp; exact own_go (fun _ q => XS.ddivS X.here hx rfl (hb hby hd) rfl hn rfl q) k
theorem own_narR {t : FieldType} {w : Value} (ht : t.isReference = true) (hw : w.isRef = true) : narrow t w = w := by rcases ref_cases hw with rfl | ⟨a, rfl⟩ <;> cases t <;> first | rfl | (cases ht)
theorem own_fitR {t : FieldType} {w : Value} (ht : t.isReference = true) (hw : w.isRef = true) : fits t w = true := by rcases ref_cases hw with rfl | ⟨a, rfl⟩ <;> cases t <;> first | rfl | (cases ht)
theorem own_nb (x : Int32) : nar .byte (x.toInt8.toInt32) = x.toInt8.toInt32 := by
  show (x.toInt8.toInt32).toInt8.toInt32 = x.toInt8.toInt32
  simp
theorem own_nc (x : Int32) : nar .char (x.toUInt32.toUInt16.toUInt32.toInt32) = x.toUInt32.toUInt16.toUInt32.toInt32 := by
  show (x.toUInt32.toUInt16.toUInt32.toInt32).toUInt32.toUInt16.toUInt32.toInt32 = _
  have q : ∀ u : UInt16, u.toUInt32.toInt32.toUInt32.toUInt16 = u := fun u => by simp
  rw [q]
end OwnKit
section OwnWide
variable {p : Program} {l : Launch} {e : Env} {R : Room} {s : State} {m : MethodId} {args : Array Value} {below : List Frame} {meth : Method} {c : Code} {T T' : State} {locs : List Loc} {cells slots : Nat} {P : Outcome → State → Prop} {Q : Option Value → Heap → List Loc → Prop} {cC cS : Nat} {bytes : ByteArray} {ls : Array Slot} {st : List Value} {pc pc' : Nat} {g g' : JFrame} {Z : State} {a0 : Array Value} {h h' : Heap}
variable {vm : Vm} {nn : Nat} {EL : List (String × Nat)}
def own_EndW (Z : State) (EL : List (String × Nat)) (s : State) (Q : Option Value → Heap → List Loc → Prop) (cC cS : Nat) (o : Outcome) (U : State) : Prop := ∃ v L, o = .returned v ∧ Q v U.heap L ∧ CHr Z EL s.vm s.heap U.vm U.heap ∧ ReturnedEndW s o U L cC cS
theorem own_safe_null {a : Addr} (hal : Z.vm.Alike vm) (E : Exa Z h a "java/lang/String") (F : Fld Z h a "java/lang/String" "value" "[B" .null) : Safe Z EL vm h a := fun B => by
  obtain ⟨cell, k, e1, e2, e3, -, -⟩ := E
  obtain ⟨pp, -, u, b, -, q, -, S, rfl | rfl⟩ := B
  · obtain ⟨cf, ci, kk, i, f, f1, f2, f3, f4, f5, f6, f7⟩ := F
    obtain ⟨cS, ⟨⟨s1, s2, s3, ⟨cv, kv, iv, s4, s4'⟩, -, s6, -, s8, -⟩, -, -⟩, -⟩ := S
    obtain ⟨kv', z4⟩ := ff_back (U := Wst Z vm h) hal s4
    have e4 := z4.symm.trans f2
    simp only [Option.some.injEq, Prod.mk.injEq] at e4
    cases (show h[q.sa]? = some q.sC from s1).symm.trans f1
    rw [← e4.2.2.2, s8] at f7
    simp at f7
  · obtain ⟨cS, -, -, f, -⟩ := id S
    have f : vm.findClass "[B" = some q.SA.cls := f
    cases (show h[q.sd]? = some q.SA from S.hd).symm.trans e1
    rw [hal.findClass] at f
    obtain ⟨k1, q1, q2⟩ := Vm.findClass_spec f
    obtain ⟨k2, q3, q4⟩ := Vm.findClass_spec e2
    cases q1.symm.trans q3
    have := q2.symm.trans q4
    simp at this
theorem own_retVW (X : Stand p l e R (s.setVm vm) m args below meth c T locs cells slots) (hx : p.tables.exec = Jvm.exec) (hby : c.code = bytes) (hS : s.Since vm nn) (hn : nn ≤ h.size) (hZ : Z.Warmed39 (s.setVm vm).vm) (hEL : EW Z a0 EL) (eT : T.heap = h) (CR : CHr Z EL s.vm s.heap vm h) (hlk : meth.locks = false) (hret : meth.sig.returnType = none) (hd : decode bytes pc = .ok (.return_, 1)) (hc : cells ≤ cC) (hs : slots ≤ cS)
    (hq : Q none T.heap locs) : own_Got p e below (own_EndW Z EL s Q cC cS) T (mkF m pc ls []) := by
  subst eT
  have CE : CHr Z EL s.vm s.heap T.vm T.heap := CR.trans (CHv.at X hZ hEL CR.1)
  obtain ⟨fs, hr, hrun, hended, r1, r2, r3, hsame⟩ := X.leaveW hS hn (v := none) (fun _ => rfl) hlk
  exact ⟨_, _, X.returnOut hx hret (hb hby hd) hr, hrun, hended, _, _, rfl, hq, CE, r1, r2, r3, hsame.mono hc hs⟩
theorem own_retIW (X : Stand p l e R (s.setVm vm) m args below meth c T locs cells slots) (hx : p.tables.exec = Jvm.exec) (hby : c.code = bytes) (hS : s.Since vm nn) (hn : nn ≤ h.size) (hZ : Z.Warmed39 (s.setVm vm).vm) (hEL : EW Z a0 EL) (eT : T.heap = h) (CR : CHr Z EL s.vm s.heap vm h) (hlk : meth.locks = false) (hret : meth.sig.returnType = some .int) (hd : decode bytes pc = .ok (.ireturn, 1)) (hc : cells ≤ cC) (hs : slots ≤ cS) {z : Int32}
    (hq : Q (some (.int z)) T.heap locs) : own_Got p e below (own_EndW Z EL s Q cC cS) T (mkF m pc ls (.int z :: st)) := by
  subst eT
  have CE : CHr Z EL s.vm s.heap T.vm T.heap := CR.trans (CHv.at X hZ hEL CR.1)
  obtain ⟨fs, hr, hrun, hended, r1, r2, r3, hsame⟩ := X.leaveW hS hn (v := some (.int z)) (fun h => by rw [hret] at h; cases h) hlk
  exact ⟨_, _, retOut X hx hret rfl (Or.inl ⟨rfl, Or.inl rfl, _, rfl⟩) (hb hby hd) hr, hrun, hended, _, _, rfl, hq, CE, r1, r2, r3, hsame.mono hc hs⟩
theorem own_retLW (X : Stand p l e R (s.setVm vm) m args below meth c T locs cells slots) (hx : p.tables.exec = Jvm.exec) (hby : c.code = bytes) (hS : s.Since vm nn) (hn : nn ≤ h.size) (hZ : Z.Warmed39 (s.setVm vm).vm) (hEL : EW Z a0 EL) (eT : T.heap = h) (CR : CHr Z EL s.vm s.heap vm h) (hlk : meth.locks = false) (hret : meth.sig.returnType = some .long) (hd : decode bytes pc = .ok (.lreturn, 1)) (hc : cells ≤ cC) (hs : slots ≤ cS) {z : Int64}
    (hq : Q (some (.long z)) T.heap locs) : own_Got p e below (own_EndW Z EL s Q cC cS) T (mkF m pc ls (.long z :: st)) := by
  subst eT
  have CE : CHr Z EL s.vm s.heap T.vm T.heap := CR.trans (CHv.at X hZ hEL CR.1)
  obtain ⟨fs, hr, hrun, hended, r1, r2, r3, hsame⟩ := X.leaveW hS hn (v := some (.long z)) (fun h => by rw [hret] at h; cases h) hlk
  exact ⟨_, _, retOut X hx hret rfl (Or.inr (Or.inl ⟨rfl, rfl, _, rfl⟩)) (hb hby hd) hr, hrun, hended, _, _, rfl, hq, CE, r1, r2, r3, hsame.mono hc hs⟩
theorem own_retDW (X : Stand p l e R (s.setVm vm) m args below meth c T locs cells slots) (hx : p.tables.exec = Jvm.exec) (hby : c.code = bytes) (hS : s.Since vm nn) (hn : nn ≤ h.size) (hZ : Z.Warmed39 (s.setVm vm).vm) (hEL : EW Z a0 EL) (eT : T.heap = h) (CR : CHr Z EL s.vm s.heap vm h) (hlk : meth.locks = false) (hret : meth.sig.returnType = some .double) (hd : decode bytes pc = .ok (.dreturn, 1)) (hc : cells ≤ cC) (hs : slots ≤ cS) {z : UInt64}
    (hq : Q (some (.double z)) T.heap locs) : own_Got p e below (own_EndW Z EL s Q cC cS) T (mkF m pc ls (.double z :: st)) := by
  subst eT
  have CE : CHr Z EL s.vm s.heap T.vm T.heap := CR.trans (CHv.at X hZ hEL CR.1)
  obtain ⟨fs, hr, hrun, hended, r1, r2, r3, hsame⟩ := X.leaveW hS hn (v := some (.double z)) (fun h => by rw [hret] at h; cases h) hlk
  exact ⟨_, _, retOut X hx hret rfl (Or.inr (Or.inr (Or.inl ⟨rfl, rfl, _, rfl⟩))) (hb hby hd) hr, hrun, hended, _, _, rfl, hq, CE, r1, r2, r3, hsame.mono hc hs⟩
theorem own_retNW (X : Stand p l e R (s.setVm vm) m args below meth c T locs cells slots) (hx : p.tables.exec = Jvm.exec) (hby : c.code = bytes) (hS : s.Since vm nn) (hn : nn ≤ h.size) (hZ : Z.Warmed39 (s.setVm vm).vm) (hEL : EW Z a0 EL) (eT : T.heap = h) (CR : CHr Z EL s.vm s.heap vm h) (hlk : meth.locks = false) {t : FieldType} (hret : meth.sig.returnType = some t) (ht : t = .boolean ∨ t = .byte ∨ t = .char ∨ t = .short) (hd : decode bytes pc = .ok (.ireturn, 1)) (hc : cells ≤ cC) (hs : slots ≤ cS) {z : Int32}
    (hq : Q (some (.int (nar t z))) T.heap locs) : own_Got p e below (own_EndW Z EL s Q cC cS) T (mkF m pc ls (.int z :: st)) := by
  subst eT
  have CE : CHr Z EL s.vm s.heap T.vm T.heap := CR.trans (CHv.at X hZ hEL CR.1)
  obtain ⟨fs, hr, hrun, hended, r1, r2, r3, hsame⟩ := X.leaveW hS hn (v := some (.int (nar t z))) (fun h => by rw [hret] at h; cases h) hlk
  exact ⟨_, _, retN X hx hret ht (hb hby hd) hr, hrun, hended, _, _, rfl, hq, CE, r1, r2, r3, hsame.mono hc hs⟩
theorem own_retRW (X : Stand p l e R (s.setVm vm) m args below meth c T locs cells slots) (hx : p.tables.exec = Jvm.exec) (hby : c.code = bytes) (hS : s.Since vm nn) (hn : nn ≤ h.size) (hZ : Z.Warmed39 (s.setVm vm).vm) (hEL : EW Z a0 EL) (eT : T.heap = h) (CR : CHr Z EL s.vm s.heap vm h) (hlk : meth.locks = false) {t : FieldType} (hret : meth.sig.returnType = some t) (ht : t.isReference = true) (hd : decode bytes pc = .ok (.areturn, 1)) (hc : cells ≤ cC) (hs : slots ≤ cS) {w : Value} (hw : w.isRef = true)
    (hq : Q (some w) T.heap locs) : own_Got p e below (own_EndW Z EL s Q cC cS) T (mkF m pc ls (w :: st)) := by
  subst eT
  have CE : CHr Z EL s.vm s.heap T.vm T.heap := CR.trans (CHv.at X hZ hEL CR.1)
  obtain ⟨fs, hr, hrun, hended, r1, r2, r3, hsame⟩ := X.leaveW hS hn (v := some w) (fun h => by rw [hret] at h; cases h) hlk
  have hnw : narrow t w = w := by rcases ref_cases hw with rfl | ⟨a, rfl⟩ <;> cases t <;> first | rfl | (cases ht)
  exact ⟨_, _, retOut X hx hret hnw (Or.inr (Or.inr (Or.inr (Or.inr ⟨rfl, ht, hw⟩)))) (hb hby hd) hr, hrun, hended, _, _, rfl, hq, CE, r1, r2, r3, hsame.mono hc hs⟩
end OwnWide
theorem own_EL {Z : State} {aT : Array Value} (hw : ∀ d ∈ tables_1, d.before aT Z = true) : EW Z aT consts_1 := (EW.cons (hw _ (List.mem_of_getElem? (i := 33) rfl)) (by decide +kernel) (EW.cons (hw _ (List.mem_of_getElem? (i := 41) rfl)) (by decide +kernel) (EW.cons (hw _ (List.mem_of_getElem? (i := 21) rfl)) (by decide +kernel) EW.nil)))
theorem own_wS {Z : State} {aT : Array Value} (hw : ∀ d ∈ tables_1, d.before aT Z = true) : ∀ a ∈ Bundle.stringAtoms, a.before aT Z = true := fun d hd => hw d ((by decide +kernel : ∀ d ∈ Bundle.stringAtoms, d ∈ tables_1) d hd)
section OwnSuper
section
variable {Q : Unit → Pre} {E : CtlPost} {e : Env} {d : Bool} {acts : List Action} {s : State} {f : JFrame}
/-- invokespecial of a method that the named class itself declares, the named class being the superclass: whatever kind of entry names it -/
theorem own_spReady {index ci a nt : Nat} {r0 : MethodId} {ck nk : Class} {cf : ClassFile} {r : Method} {args rest : List Value} {cell : Cell} {kcell : Class}
    (hs : s.topJava?.isSome) (hr : s.vm.methodReady f.method.cls index r0) (hrm : s.vm.method? r0 = some r) (hck : s.vm.classes[f.method.cls]? = some ck) (hcf : ck.cf = some cf)
    (hc : cf.constantPool[index]? = some (.methodref ci nt) ∨ cf.constantPool[index]? = some (.interfaceMethodref ci nt)) (hnamed : s.vm.classReady f.method.cls ci r0.cls) (hnk : s.vm.classes[r0.cls]? = some nk)
    (hstatic : r.isStatic = false) (hsup : ck.super.getD r0.cls = r0.cls) (hfound : lookupSpecial s.vm r0.cls r.name r.desc = .method r0) (hi : ck.isInterface = false) (habs : r.isAbstract = false)
    (hlen : args.length = r.sig.parameters.length) (hstack : f.stack = args.reverse ++ .ref a :: rest) (hcell : s.heap[a]? = some cell) (hobj : ∀ c, cell.vm ≠ .statics c) (hkcell : s.vm.classes[cell.cls]? = some kcell) :
    wp (invokespecial.sem index) Q E e d acts (s.setTop f) ↔ E (.invoke r0 (.ref a :: args).toArray) acts (s.setTop { f with stack := rest }) := by
  have hm := State.method?_setTop f hs
  rcases hc with hc | hc
  · exact invokespecial.wp_ready (named := r0.cls) hs hr hrm hck hcf hc hnamed hnk (by simp) hstatic (by rw [hsup, ite_self]; exact hfound) rfl (Or.inr (Or.inl hi)) hrm hnk habs hlen hstack hcell hobj hkcell
  · simp [invokespecial.sem, W.resolveMethodAt_ready hm hr, W.resolveClassAt_ready hm hnamed, Jvm.refClassAt, Jvm.constantAt, Jvm.popArgs, hm, hs, hrm, hck, hcf, hc, hnk, hstatic, hsup, hfound, hi, habs, hcell, hobj, hkcell, ← hlen, popN_top hs hstack]
end
variable {p : Program} {l : Launch} {e : Env} {R : Room} {s : State} {m : MethodId} {args : Array Value} {below : List Frame} {meth : Method} {c : Code} {T : State} {locs : List Loc} {cells slots : Nat} {Z : State} {a0 : Array Value} {h : Heap}
/-- super.y(..) where the superclass itself declares y: no word on whether the pool's entry is an interface's -/
theorem own_superBack (X : Stand p l e R s m args below meth c T locs cells slots) (hx : p.tables.exec = Jvm.exec) (hZ : Z.Warmed39 s.vm) {own K : String} {index : Nat} {y : MethodName} (hown : s.vm.findClass own = some m.cls) (w1 : (Cond.methodLink own index y).before a0 Z = true)
    (w3 : (Cond.instanceMethod y).before a0 Z = true) (w4 : (Cond.superclass own y.cls).before a0 Z = true) (hn : y.name ≠ "<init>") (hnot : y.cls ≠ "java/lang/invoke/MethodHandle" ∧ y.cls ≠ "java/lang/invoke/VarHandle") {W : Nat} {Pre : Pt → Array Value → Prop} {Post : Pt → Array Value → Option Value → Pt → Prop} (hK : Back l R p e below s args y 3 W Pre Post)
    (eT : T.heap = h) {a : Addr} (F : Ins Z h a K true) {g : JFrame} (hg : g.method = m) (hsize : g.locals.size = c.maxLocals) {bytes : ByteArray} {maxL : Nat} {ret : Option FieldType} (wc : (Cond.code y bytes maxL ret).before a0 Z = true) {argsL rest : List Value}
    (hlen : ∀ sig, parseMethodDescriptor y.desc = some sig → argsL.length = sig.parameters.length) (hstack : g.stack = argsL.reverse ++ .ref a :: rest) (hW : 2 * g.monitorRoom + (rest.map fun v => v.category).sum ≤ W)
    (hdg : decode c.code g.pc = .ok (.invokespecial index, 3)) (hpre : ∀ vm₁, s.WarmedH vm₁ → Pre ⟨T.setVm vm₁, locs, cells, slots⟩ (.ref a :: argsL).toArray) :
    ∃ (v : Option Value) (vm₁ : Vm) (B : Pt), s.WarmedH vm₁ ∧ Stand p l e R s m args below meth c B.U B.locs B.cells B.slots ∧ Post ⟨T.setVm vm₁, locs, cells, slots⟩ (.ref a :: argsL).toArray v B ∧
      Steps p.tables e below (T.setTop g) (B.U.setTop { g with pc := g.pc + 3, stack := v.toList ++ rest }) := by
  have hpl : e.platform.magicAccessors = ({} : Platform).magicAccessors := by rw [X.admits.platform]
  obtain ⟨mk, methM, hnamed, hmethM, hstM, habM⟩ := Cond.instanceMethod_spec (mv (args := args) hZ w3)
  obtain ⟨m2, cM, q1, -, -, -, -, -, -, hsig⟩ := Cond.code_spec hnamed (mv (args := args) hZ wc)
  cases hmethM.symm.trans q1
  have hcn := findClass_of_methodNamed hnamed
  obtain ⟨cn, dk, kp, hcn', hdk, hkp, hsuper, -, -, hnid⟩ := Cond.superclass_spec hown (mv (args := args) hZ w4)
  cases hcn'.symm.trans hcn
  obtain ⟨hnameM, hdescM⟩ := name_of_methodNamed hnamed hmethM
  obtain ⟨kO, hkO, hnameO⟩ := className_of_methodNamed hnamed
  obtain ⟨cell, cT, h1, h2, h3⟩ := F
  simp only [Bool.and_eq_true, Bool.not_eq_true'] at h3
  obtain ⟨k, hk⟩ := Vm.classAt_of_assignable h3.2 (Vm.classAt_of_findClass h2)
  obtain ⟨k', hk', -⟩ := hZ.alike.2.2 _ _ hk
  obtain ⟨ci, hl, hright⟩ := Cond.methodLink_spec hown hnamed (mv (args := args) hZ w1) e.platform hpl
  have hE : s.MethodEntry e T.vm m.cls index mk ci := State.methodEntry X.warmed hl hright fun k hk => by
    cases hkO.symm.trans hk
    rw [hnameO]; exact hnot
  obtain ⟨dk', cf, nt, _, _, via, _, _, hd', hcf, hcp, -⟩ := hl.here
  cases hdk.symm.trans hd'
  have hcp' : cf.constantPool[index]? = some (.methodref ci nt) ∨ cf.constantPool[index]? = some (.interfaceMethodref ci nt) := by
    cases via
    · exact Or.inl (by simpa using hcp)
    · exact Or.inr (by simpa using hcp)
  have hwarm := hE.warmed
  have hreadyM := hE.ready
  have hreadyC := hE.classReady
  subst hg
  generalize hvm₂ : T.vm.called g.method.cls ci index mk = vm₂ at hwarm hreadyM hreadyC
  obtain ⟨dk₂, hdk₂, hed₂⟩ := hwarm.alike.2.2 _ _ hdk
  obtain ⟨kO₂, hkO₂, heO₂⟩ := hwarm.alike.2.2 _ _ hkO
  obtain ⟨kc₂, hkc₂, hec₂⟩ := hwarm.alike.2.2 _ _ hk'
  have hm₂ : vm₂.method? mk = some methM := by rw [hwarm.alike.method?]; exact hmethM
  have hfound : lookupSpecial vm₂ mk.cls methM.name methM.desc = .method mk := by
    rw [hwarm.alike.lookupSpecial, hdescM, hnameM]; exact lookupSpecial_of_named hnamed hmethM hstM
  have X₁ := X.noted hwarm
  have hstep₁ : ∀ target, Steps p.tables e below (doInvoke e ((T.setVm vm₂).setTop { g with stack := rest }) [] mk (.ref a :: argsL).toArray).1 target → Steps p.tables e below (T.setTop g) target := fun target hrest => by
    jvm_step X.here [hx, hdg, invokespecial.wp_cold (e := e) (s := T) (s₀ := s) (f := g) (meth := methM) X.here.top hE hdk hcf hcp' hmethM, hvm₂,
      own_spReady (e := e) (s := T.setVm vm₂) (index := index) (ci := ci) (nt := nt) (a := a) (r0 := mk) (ck := dk₂) (nk := kO₂) (cf := cf) (r := methM) (args := argsL) (rest := rest) (cell := cell) (kcell := kc₂) (f := g)
        X₁.here.top hreadyM hm₂ hdk₂ (by rw [hed₂]; exact hcf) hcp' hreadyC hkO₂ hstM (by rw [hed₂]; show dk.super.getD mk.cls = _; rw [hsuper]; rfl) hfound (by rw [hed₂]; exact hnid) habM (hlen _ hsig) hstack (by show T.heap[a]? = _; rw [eT]; exact h1) (fun q e => by rw [e] at h3; cases h3.1) hkc₂]
    intro acts1
    rw [doInvoke_state]
    exact hrest
  obtain ⟨v, B, X', hpost, hsteps⟩ := hK g.method meth c ⟨T.setVm vm₂, locs, cells, slots⟩ { g with stack := rest } (.invokespecial index) mk (.ref a :: argsL).toArray X₁ rfl hsize hdg hW (X₁.named hnamed) (hpre vm₂ X₁.warmed)
  exact ⟨v, vm₂, B, X₁.warmed, X', hpost, hstep₁ _ hsteps⟩
end OwnSuper

section OwnM2
theorem own_declares {s : State} {args : Array Value} {y : MethodName} {bytes : ByteArray} {maxL : Nat} {ret : Option FieldType} (w : (Cond.instanceMethod y).before args s = true) (wc : (Cond.code y bytes maxL ret).before args s = true) : (Cond.declares y).before args s = true := by
  obtain ⟨mk, meth, hn, hm, hst, -⟩ := Cond.instanceMethod_spec w
  obtain ⟨m2, cM, q1, -, -, -, -, -, -, hsig⟩ := Cond.code_spec hn wc
  cases hm.symm.trans q1
  simp [Cond.before, Cond.holds, Cond.value, hn, hm, hst, hsig]
theorem own_nf {s : State} {args : Array Value} {y z : MethodName} (hc : y.cls = z.cls) (w : (Cond.instanceMethod z).before args s = true) (n : NotFace s z) : NotFace s y := fun r0 h0 => by
  obtain ⟨mk, meth, hn, hm, hst, -⟩ := Cond.instanceMethod_spec w
  obtain ⟨kr, k1, k2⟩ := n mk hn
  have e1 := findClass_of_methodNamed h0
  have e2 := findClass_of_methodNamed hn
  rw [hc, e2] at e1
  have e3 : mk.cls = r0.cls := Option.some.inj e1
  exact ⟨kr, by rw [← e3]; exact k1, k2⟩
/-- String is no Permission: her chain of superclasses is Object alone -/
theorem own_apart {Z : State} {a0 : Array Value} {C O K : String} {n : Nat} (w1 : (Cond.superclass C O).before a0 Z = true) (w2 : (Cond.noSuperclass O).before a0 Z = true) (w3 : (Cond.instantiable K n).before a0 Z = true) (hCK : C ≠ K) (hOK : O ≠ K) : ∃ c t, Z.vm.findClass C = some c ∧ Z.vm.findClass K = some t ∧ Z.vm.assignable c t = false := by
  obtain ⟨o, ko, ho, hko, hso, -, -⟩ := Cond.noSuperclass_spec w2
  obtain ⟨c, hc⟩ := found_sup w1
  obtain ⟨p, k, kp, h1, h2, h3, h4, h5, -, h7⟩ := Cond.superclass_spec hc w1
  cases ho.symm.trans h1
  obtain ⟨t, kt, g1, g2, g5, g7⟩ : ∃ t kt, Z.vm.findClass K = some t ∧ Z.vm.classes[t]? = some kt ∧ kt.kind = .ordinary ∧ kt.isInterface = false := by
    cases ht : Z.vm.findClass K with
    | none => simp [Cond.before, Cond.holds, Cond.value, ht] at w3
    | some t =>
      obtain ⟨kt, q1, -⟩ := Vm.findClass_spec ht
      simp [Cond.before, Cond.holds, Cond.value, ht, q1] at w3
      exact ⟨t, kt, rfl, q1, by simp_all, by simp_all⟩
  have n1 := ids_ne hc g1 hCK
  have n2 := ids_ne h1 g1 hOK
  refine ⟨c, t, hc, g1, ?_⟩
  have sub : ∀ fuel, Z.vm.isSubclassAux fuel c t = false := fun fuel => by
    cases fuel with
    | zero => rfl
    | succ f =>
      have : Z.vm.isSubclassAux f o t = false := by
        cases f with
        | zero => rfl
        | succ f => simp [Vm.isSubclassAux, n2, hko, hso]
      simp [Vm.isSubclassAux, n1, h2, h4, this]
  show Z.vm.assignableAux (255 + 1) c t = false
  simp [Vm.assignableAux, n1, h2, g2, h5, g5, g7, Vm.isSubclass, sub]
def own_L (x : Int32) : Int32 := (((x.toUInt32 >>> ((24 : Int32) &&& 31).toUInt32).toInt32) &&& (3 : Int32))
def own_b0 (x : Int32) : Int32 := (((x &&& (255 : Int32)).toUInt32.toUInt16.toUInt32.toInt32).toInt8.toInt32)
def own_b1 (x : Int32) : Int32 := (((((x.toUInt32 >>> ((8 : Int32) &&& 31).toUInt32).toInt32) &&& (255 : Int32)).toUInt32.toUInt16.toUInt32.toInt32).toInt8.toInt32)
def own_b2 (x : Int32) : Int32 := (((((x.toUInt32 >>> ((16 : Int32) &&& 31).toUInt32).toInt32) &&& (255 : Int32)).toUInt32.toUInt16.toUInt32.toInt32).toInt8.toInt32)
def own_st (x n : Int32) (vs : List Value) : Prop := (own_L x = 0 ∧ n = 0 ∧ vs = []) ∨ (own_L x = 1 ∧ n = 1 ∧ vs = [(.int (own_b0 x))]) ∨ (own_L x = 2 ∧ n = 2 ∧ vs = [(.int (own_b0 x)), (.int (own_b1 x))]) ∨ (own_L x = 3 ∧ n = 3 ∧ vs = [(.int (own_b0 x)), (.int (own_b1 x)), (.int (own_b2 x))])
theorem own_st0 {x n : Int32} {vs : List Value} (h : own_st x n vs) (q : own_L x = 0) : n = 0 ∧ vs = [] := by
  rcases h with h | h | h | h <;> first | exact h.2 | (rw [h.1] at q; exact absurd q (by decide))
theorem own_st1 {x n : Int32} {vs : List Value} (h : own_st x n vs) (q : own_L x = 1) : n = 1 ∧ vs = [(.int (own_b0 x))] := by
  rcases h with h | h | h | h <;> first | exact h.2 | (rw [h.1] at q; exact absurd q (by decide))
theorem own_st2 {x n : Int32} {vs : List Value} (h : own_st x n vs) (q : own_L x = 2) : n = 2 ∧ vs = [(.int (own_b0 x)), (.int (own_b1 x))] := by
  rcases h with h | h | h | h <;> first | exact h.2 | (rw [h.1] at q; exact absurd q (by decide))
theorem own_st3 {x n : Int32} {vs : List Value} (h : own_st x n vs) (q : own_L x = 3) : n = 3 ∧ vs = [(.int (own_b0 x)), (.int (own_b1 x)), (.int (own_b2 x))] := by
  rcases h with h | h | h | h <;> first | exact h.2 | (rw [h.1] at q; exact absurd q (by decide))
theorem own_Lc (x : Int32) : own_L x = 0 ∨ own_L x = 1 ∨ own_L x = 2 ∨ own_L x = 3 := by
  unfold own_L
  have h := c_and ((x.toUInt32 >>> ((24 : Int32) &&& 31).toUInt32).toInt32) 3 (by decide)
  have e3 : (3 : Int32).toInt = 3 := by decide
  have h3 : (((x.toUInt32 >>> ((24 : Int32) &&& 31).toUInt32).toInt32) &&& (3 : Int32)).toInt = 0 ∨ (((x.toUInt32 >>> ((24 : Int32) &&& 31).toUInt32).toInt32) &&& (3 : Int32)).toInt = 1 ∨ (((x.toUInt32 >>> ((24 : Int32) &&& 31).toUInt32).toInt32) &&& (3 : Int32)).toInt = 2 ∨ (((x.toUInt32 >>> ((24 : Int32) &&& 31).toUInt32).toInt32) &&& (3 : Int32)).toInt = 3 := by omega
  simp only [← Int32.toInt_inj]
  exact h3
theorem own_Lc' (x : Int32) : (((x.toUInt32 >>> ((24 : Int32) &&& 31).toUInt32).toInt32) &&& (3 : Int32)) = (0 : Int32) ∨ (((x.toUInt32 >>> ((24 : Int32) &&& 31).toUInt32).toInt32) &&& (3 : Int32)) = (1 : Int32) ∨ (((x.toUInt32 >>> ((24 : Int32) &&& 31).toUInt32).toInt32) &&& (3 : Int32)) = (2 : Int32) ∨ (((x.toUInt32 >>> ((24 : Int32) &&& 31).toUInt32).toInt32) &&& (3 : Int32)) = (3 : Int32) := own_Lc x
theorem own_no4 {s : Int32} (h : s = 0 ∨ s = 1 ∨ s = 2 ∨ s = 3) (h0 : ¬ (s = 0)) (h1 : ¬ (s = 1)) (h2 : ¬ (s = 2)) (h3 : ¬ (s = 3)) : False := by
  rcases h with h | h | h | h <;> contradiction
def own_n3 (n : Int32) : Prop := n = 0 ∨ n = 1 ∨ n = 2 ∨ n = 3
theorem own_stn {x n : Int32} {vs : List Value} (h : own_st x n vs) : own_n3 n := by
  rcases h with h | h | h | h
  · exact Or.inl h.2.1
  · exact Or.inr (Or.inl h.2.1)
  · exact Or.inr (Or.inr (Or.inl h.2.1))
  · exact Or.inr (Or.inr (Or.inr h.2.1))
/-- n bytes at place c lie in an array of 16 -/
def own_bnd (c n : Int32) : Prop := 0 ≤ c.toInt ∧ 0 ≤ n.toInt ∧ c.toInt + n.toInt ≤ 15
instance (c n : Int32) : Decidable (own_bnd c n) := by unfold own_bnd; infer_instance
theorem own_bd0 {n : Int32} (h : own_n3 n) : own_bnd (0 : Int32) n := by rcases h with rfl | rfl | rfl | rfl <;> decide
theorem own_bd1 {n : Int32} (h : own_n3 n) : own_bnd ((0 : Int32) + n) (1 : Int32) := by rcases h with rfl | rfl | rfl | rfl <;> decide
theorem own_bd2 {n n' : Int32} (h : own_n3 n) (h' : own_n3 n') : own_bnd (((0 : Int32) + n) + (1 : Int32)) n' := by rcases h with rfl | rfl | rfl | rfl <;> rcases h' with rfl | rfl | rfl | rfl <;> decide
def own_17 (n : Int32) : Prop := n = 1 ∨ n = 2 ∨ n = 3 ∨ n = 4 ∨ n = 5 ∨ n = 6 ∨ n = 7
theorem own_bd3 {n n' : Int32} (h : own_n3 n) (h' : own_n3 n') : own_17 ((((0 : Int32) + n) + (1 : Int32)) + n') := by
  rcases h with rfl | rfl | rfl | rfl <;> rcases h' with rfl | rfl | rfl | rfl <;> (unfold own_17; decide)
theorem own_17n {n : Int32} (h : own_17 n) : ¬ (n = (16 : Int32)) := by rcases h with rfl | rfl | rfl | rfl | rfl | rfl | rfl <;> decide
theorem own_cap {c n : Int32} (h : own_bnd c n) : ¬ ((0 : Int32) < ((c + n) - (16 : Int32))) := by
  obtain ⟨h1, h2, h3⟩ := h
  have hc := Int32.toInt_lt c
  have hn := Int32.toInt_lt n
  have e : c.toInt = 0 ∨ True := Or.inr trivial
  rw [Int32.lt_iff_toInt_lt, Int32.toInt_sub, Int32.toInt_add, (by decide : (16 : Int32).toInt = 16), (by decide : (0 : Int32).toInt = 0)]
  have b1 : (c.toInt + n.toInt).bmod (2 ^ 32) = c.toInt + n.toInt := Int.bmod_eq_of_le (by omega) (by omega)
  rw [b1, Int.bmod_eq_of_le (by omega) (by omega)]
  omega
theorem own_pos {c n : Int32} (h : own_bnd c n) : ¬ (c < (0 : Int32)) := by rw [Int32.lt_iff_toInt_lt, (by decide : (0 : Int32).toInt = 0)]; have := h.1; omega
theorem own_pos' {c n : Int32} (h : own_bnd c n) : ¬ (n < (0 : Int32)) := by rw [Int32.lt_iff_toInt_lt, (by decide : (0 : Int32).toInt = 0)]; have := h.2.1; omega
theorem own_lt16 {c n : Int32} (h : own_bnd c n) : c < (16 : Int32) := by rw [Int32.lt_iff_toInt_lt, (by decide : (16 : Int32).toInt = 16)]; have := h.2.2; have := h.2.1; omega
theorem own_in {c n : Int32} (h : own_bnd c n) : c.toNatClampNeg + n.toNatClampNeg ≤ 16 := by
  obtain ⟨h1, h2, h3⟩ := h
  have e1 : c.toNatClampNeg = c.toInt.toNat := rfl
  have e2 : n.toNatClampNeg = n.toInt.toNat := rfl
  omega
theorem own_in1 {c n : Int32} (h : own_bnd c n) : c.toNatClampNeg < 16 := by
  obtain ⟨h1, h2, h3⟩ := h
  have e1 : c.toNatClampNeg = c.toInt.toNat := rfl
  omega
theorem own_shr0 (n : Int32) : (n >>> ((0 : Int32) &&& 31)) = n := by
  rw [(by decide : ((0 : Int32) &&& 31) = 0)]; simp
theorem own_shl0 (n : Int32) : (n <<< ((0 : Int32) &&& 31)) = n := by
  rw [(by decide : ((0 : Int32) &&& 31) = 0)]; simp
theorem own_m255 : ∀ (j : Fin 32), (255#32)[j.val] = decide (j.val < 8) := by decide +kernel
theorem own_b255 (x : Int32) : x.toInt8.toInt32 &&& 255 = x &&& 255 := by
  apply Int32.toBitVec_inj.mp
  simp only [Int32.toBitVec_and, Int8.toBitVec_toInt32, Int32.toBitVec_toInt8]
  apply BitVec.eq_of_getLsbD_eq
  intro i hi
  have e : (255 : Int32).toBitVec = BitVec.ofNat 32 (2 ^ 8 - 1) := by decide
  rw [e]
  simp only [BitVec.getLsbD_and, BitVec.getLsbD_ofNat, Nat.testBit_two_pow_sub_one, BitVec.getLsbD_signExtend, BitVec.getLsbD_setWidth]
  by_cases h : i < 8 <;> simp [h, hi]
theorem own_binj (x y : Int32) : (((x &&& (255 : Int32)).toUInt32.toUInt16.toUInt32.toInt32).toInt8.toInt32 = ((y &&& (255 : Int32)).toUInt32.toUInt16.toUInt32.toInt32).toInt8.toInt32) ↔ ((x &&& (255 : Int32)) = (y &&& (255 : Int32))) := by
  rw [i2c_mask, i2c_mask]
  constructor
  · intro h
    have h2 := congrArg (fun z => z &&& (255 : Int32)) h
    simp only [own_b255] at h2
    have e : ∀ z : Int32, (z &&& 255) &&& 255 = z &&& 255 := fun z => by rw [Int32.and_assoc]; rfl
    rw [e, e] at h2
    exact h2
  · intro h; rw [h]
end OwnM2

theorem own_c255 (x : Int32) : ¬ ((255 : Int32) < ((x &&& (255 : Int32)).toUInt32.toUInt16.toUInt32.toInt32)) := by
  rw [i2c_mask]
  have h := c_and x 255 (by decide)
  rw [Int32.lt_iff_toInt_lt]
  omega

theorem d_cpI1_0 : decode jdk_52_method_21_code 0 = .ok (.iconst 0, 1) := by decide +kernel
theorem d_cpI1_1 : decode jdk_52_method_21_code 1 = .ok (.istore 5, 2) := by decide +kernel
theorem d_cpI1_3 : decode jdk_52_method_21_code 3 = .ok (.iload 5, 2) := by decide +kernel
theorem d_cpI1_5 : decode jdk_52_method_21_code 5 = .ok (.iload 4, 2) := by decide +kernel
theorem d_cpI1_7 : decode jdk_52_method_21_code 7 = .ok (.if_icmp .ge 37, 3) := by decide +kernel
theorem d_cpI1_10 : decode jdk_52_method_21_code 10 = .ok (.aload_n 0, 1) := by decide +kernel
theorem d_cpI1_11 : decode jdk_52_method_21_code 11 = .ok (.iload_n 1, 1) := by decide +kernel
theorem d_cpI1_12 : decode jdk_52_method_21_code 12 = .ok (.caload, 1) := by decide +kernel
theorem d_cpI1_13 : decode jdk_52_method_21_code 13 = .ok (.istore 6, 2) := by decide +kernel
theorem d_cpI1_15 : decode jdk_52_method_21_code 15 = .ok (.iload 6, 2) := by decide +kernel
theorem d_cpI1_17 : decode jdk_52_method_21_code 17 = .ok (.sipush 255, 3) := by decide +kernel
theorem d_cpI1_20 : decode jdk_52_method_21_code 20 = .ok (.if_icmp .le 6, 3) := by decide +kernel
theorem d_cpI1_26 : decode jdk_52_method_21_code 26 = .ok (.aload_n 2, 1) := by decide +kernel
theorem d_cpI1_27 : decode jdk_52_method_21_code 27 = .ok (.iload_n 3, 1) := by decide +kernel
theorem d_cpI1_28 : decode jdk_52_method_21_code 28 = .ok (.iload 6, 2) := by decide +kernel
theorem d_cpI1_30 : decode jdk_52_method_21_code 30 = .ok (.i2b, 1) := by decide +kernel
theorem d_cpI1_31 : decode jdk_52_method_21_code 31 = .ok (.bastore, 1) := by decide +kernel
theorem d_cpI1_32 : decode jdk_52_method_21_code 32 = .ok (.iinc 1 1, 3) := by decide +kernel
theorem d_cpI1_35 : decode jdk_52_method_21_code 35 = .ok (.iinc 3 1, 3) := by decide +kernel
theorem d_cpI1_38 : decode jdk_52_method_21_code 38 = .ok (.iinc 5 1, 3) := by decide +kernel
theorem d_cpI1_41 : decode jdk_52_method_21_code 41 = .ok (.goto (-38), 3) := by decide +kernel
theorem d_cpI1_44 : decode jdk_52_method_21_code 44 = .ok (.iload 4, 2) := by decide +kernel
theorem d_cpI1_46 : decode jdk_52_method_21_code 46 = .ok (.ireturn, 1) := by decide +kernel
theorem pn0 : plainName "java/lang/StringUTF16" = true := by first | (simp [plainName, overriddenIn]; done) | decide +kernel
theorem ef_cpI1 (m : MethodId) (a0 : Addr) (a2 : Addr) : entryFrame m #[(.ref a0), (.int (0 : Int32)), (.ref a2), (.int (0 : Int32)), (.int (1 : Int32))] 7 = mkF m 0 #[.val (.ref a0), .val (.int (0 : Int32)), .val (.ref a2), .val (.int (0 : Int32)), .val (.int (1 : Int32)), .unset, .unset] [] := by first | (simp [entryFrame, mkF, argsToLocals, Value.category]; done) | rfl
def Q_cpI1 (Z : State) (a0 : Addr) (a2 : Addr) (kc : ClassId) (c0 : Int32) (kb : ClassId) (h0 : Heap) (n0 : Nat) (v : Option Value) (h : Heap) (L : List Loc) : Prop := v = some (.int (1 : Int32)) ∧ Fr n0 L ∧ Keep h0 h [a2] ∧ Exa Z h a2 "[B" ∧ Arv Z h a2 kb .byte (1 : Int32) [(.int (c0.toInt8.toInt32))] (.int (0 : Int32))
set_option maxRecDepth 65536 in
set_option maxHeartbeats 40000000 in
theorem rm_cpI1 (l : Launch) (Z : State) (aT : Array Value) (hw : ∀ d ∈ tables_1, d.before aT Z = true) (ws : List Jvm.Cond) (a0 : Addr) (a2 : Addr) (kc : ClassId) (c0 : Int32) (kb : ClassId) (h0 : Heap) (n0 : Nat) (Z0 : n0 ≤ h0.size) (hp0 : Arv Z h0 a0 kc .char (1 : Int32) [(.int c0)] (.int (0 : Int32))) (hp1 : Exa Z h0 a2 "[B") (hp2 : Arv Z h0 a2 kb .byte (1 : Int32) [(.int (0 : Int32))] (.int (0 : Int32))) (hp3 : n0 ≤ a2) (hp4 : a0 ≠ a2) (hq0 : ¬ ((255 : Int32) < c0)) :
    MetFree l (⟨"java/lang/StringUTF16", "compress", "([CI[BII)I"⟩ : MethodName) (head1 (Jvm.Cond.code (⟨"java/lang/StringUTF16", "compress", "([CI[BII)I"⟩ : MethodName) jdk_52_method_21_code 7 (some .int) :: ws) ({ frames := 0, cells := 0, slots := 0, locals := 0 } : Room)) (fun a U => a = #[(.ref a0), (.int (0 : Int32)), (.ref a2), (.int (0 : Int32)), (.int (1 : Int32))] ∧ Z.Warmed39 U.vm ∧ U.heap = h0) (fun _ _ _ _ _ => True) (fun _ U o U' => ∃ v L, o = .returned v ∧ Q_cpI1 Z a0 a2 kc c0 kb h0 n0 v U'.heap L ∧ FrameEnd U o U' L ({ frames := 0, cells := 0, slots := 0, locals := 0 } : Room).cells ({ frames := 0, cells := 0, slots := 0, locals := 0 } : Room).slots) := by
  refine MetFree.of_bodySF (plainFor_of_name pn0) hisR ?_
  intro p e s m args below meth c s₁ Bd hml0 hP hK
  obtain ⟨rfl, hZ, hh⟩ := hP
  have hx := Bd.exec
  have hby := Bd.bytes
  have hml : c.maxLocals = 7 := hml0
  have hown : s.vm.findClass "java/lang/StringUTF16" = some m.cls := findClass_of_methodNamed Bd.named
  have hnm := (name_of_methodNamed Bd.named Bd.method).1
  have hlk := Bd.notSynchronized
  have hrt := Bd.returns
  have X0 : Stand p l e ({ frames := 0, cells := 0, slots := 0, locals := 0 } : Room) s m #[(.ref a0), (.int (0 : Int32)), (.ref a2), (.int (0 : Int32)), (.int (1 : Int32))] below meth c s₁ [] 0 0 := Stand.of_body Bd
  have e0 : s₁.heap = h0 := by rw [← hh, Bd.state]; rfl
  have N0 := Fr.nil n0
  refine own_cast (P := own_End s (Q_cpI1 Z a0 a2 kc c0 kb h0 n0) ({ frames := 0, cells := 0, slots := 0, locals := 0 } : Room).cells ({ frames := 0, cells := 0, slots := 0, locals := 0 } : Room).slots) (ef_cpI1 m a0 a2) ?_
  refine g_iconst X0 hx hby (0 : Int32) d_cpI1_0 (by decide) (rfl : 0 + 1 = 1) ?_
  refine g_istore X0 hx hby #[.val (.ref a0), .val (.int (0 : Int32)), .val (.ref a2), .val (.int (0 : Int32)), .val (.int (1 : Int32)), .val (.int (0 : Int32)), .unset] d_cpI1_1 rfl (rfl : 1 + 2 = 3) ?_
  refine g_iload X0 hx hby d_cpI1_3 rfl (rfl : 3 + 2 = 5) ?_
  refine g_iload X0 hx hby d_cpI1_5 rfl (rfl : 5 + 2 = 7) ?_
  refine g_icF X0 hx hby d_cpI1_7 (tlt (by decide : (0 : Int32) < (1 : Int32))).2.1 (rfl : 7 + 3 = 10) ?_
  refine g_aloadN X0 hx hby d_cpI1_10 rfl rfl (rfl : 10 + 1 = 11) ?_
  refine g_iloadN X0 hx hby d_cpI1_11 rfl (rfl : 11 + 1 = 12) ?_
  refine g_caload X0 hx hby hZ e0 (v := (.int c0)) hp0 ⟨by decide, by decide⟩ rfl d_cpI1_12 (rfl : 12 + 1 = 13) ?_
  refine g_istore X0 hx hby #[.val (.ref a0), .val (.int (0 : Int32)), .val (.ref a2), .val (.int (0 : Int32)), .val (.int (1 : Int32)), .val (.int (0 : Int32)), .val (.int c0)] d_cpI1_13 rfl (rfl : 13 + 2 = 15) ?_
  refine g_iload X0 hx hby d_cpI1_15 rfl (rfl : 15 + 2 = 17) ?_
  refine g_sipush X0 hx hby (255 : Int32) d_cpI1_17 (by decide) (rfl : 17 + 3 = 20) ?_
  refine g_icT X0 hx hby d_cpI1_20 (flt hq0).2.2.2 (by decide) (pc' := 26) (by decide) ?_
  refine g_aloadN X0 hx hby d_cpI1_26 rfl rfl (rfl : 26 + 1 = 27) ?_
  refine g_iloadN X0 hx hby d_cpI1_27 rfl (rfl : 27 + 1 = 28) ?_
  refine g_iload X0 hx hby d_cpI1_28 rfl (rfl : 28 + 2 = 30) ?_
  refine g_i2b X0 hx hby d_cpI1_30 (rfl : 30 + 1 = 31) ?_
  obtain ⟨T1, h1, X1, e1, W1, V1, st1⟩ := a_bastore X0 hx hby hZ e0 (ls := #[.val (.ref a0), .val (.int (0 : Int32)), .val (.ref a2), .val (.int (0 : Int32)), .val (.int (1 : Int32)), .val (.int (0 : Int32)), .val (.int c0)]) (st := []) (j := (0 : Int32)) (c0.toInt8.toInt32) 0 hp2 ⟨by decide, by decide⟩ (by decide) (Nat.le_of_ble_eq_true rfl) d_cpI1_31
  have Z1 : n0 ≤ h1.size := Nat.le_trans Z0 (Keep.of_wr W1).1
  have N1 := Fr.snoc X1 N0 hp3
  have K1 : Keep h0 h1 [a2] := (Keep.refl h0 [a2]).wr W1 (Or.inl (List.mem_of_getElem? (i := 0) rfl))
  have V1' : Arv Z h1 a2 kb .byte (1 : Int32) [(.int (c0.toInt8.toInt32))] (.int (0 : Int32)) := by have q := V1; rw [own_nb] at q; exact q
  refine own_go st1 ?_
  show own_Got p e below _ T1 (mkF m 32 #[.val (.ref a0), .val (.int (0 : Int32)), .val (.ref a2), .val (.int (0 : Int32)), .val (.int (1 : Int32)), .val (.int (0 : Int32)), .val (.int c0)] [])
  refine g_iinc X1 hx hby #[.val (.ref a0), .val (.int ((0 : Int32) + (1 : Int32))), .val (.ref a2), .val (.int (0 : Int32)), .val (.int (1 : Int32)), .val (.int (0 : Int32)), .val (.int c0)] d_cpI1_32 rfl rfl (rfl : 32 + 3 = 35) ?_
  rw [(by decide : ((0 : Int32) + (1 : Int32)) = (1 : Int32))]
  refine g_iinc X1 hx hby #[.val (.ref a0), .val (.int (1 : Int32)), .val (.ref a2), .val (.int ((0 : Int32) + (1 : Int32))), .val (.int (1 : Int32)), .val (.int (0 : Int32)), .val (.int c0)] d_cpI1_35 rfl rfl (rfl : 35 + 3 = 38) ?_
  rw [(by decide : ((0 : Int32) + (1 : Int32)) = (1 : Int32))]
  refine g_iinc X1 hx hby #[.val (.ref a0), .val (.int (1 : Int32)), .val (.ref a2), .val (.int (1 : Int32)), .val (.int (1 : Int32)), .val (.int ((0 : Int32) + (1 : Int32))), .val (.int c0)] d_cpI1_38 rfl rfl (rfl : 38 + 3 = 41) ?_
  rw [(by decide : ((0 : Int32) + (1 : Int32)) = (1 : Int32))]
  refine g_goto X1 hx hby d_cpI1_41 (by decide) (pc' := 3) (by decide) ?_
  refine g_iload X1 hx hby d_cpI1_3 rfl (rfl : 3 + 2 = 5) ?_
  refine g_iload X1 hx hby d_cpI1_5 rfl (rfl : 5 + 2 = 7) ?_
  refine g_icT X1 hx hby d_cpI1_7 (flt (by decide : ¬ ((1 : Int32) < (1 : Int32)))).2.1 (by decide) (pc' := 44) (by decide) ?_
  refine g_iload X1 hx hby d_cpI1_44 rfl (rfl : 44 + 2 = 46) ?_
  have f2 : Exa Z h1 a2 "[B" := (Exa.wr W1 hp1)
  refine own_retI X1 hx hby hlk hrt d_cpI1_46 (by decide) (by decide) ?_
  show Q_cpI1 Z a0 a2 kc c0 kb h0 n0 _ T1.heap _
  rw [e1]
  exact ⟨rfl, N1, K1, f2, V1'⟩
theorem d_cpB1_0 : decode jdk_52_method_16_code 0 = .ok (.iload_n 2, 1) := by decide +kernel
theorem d_cpB1_1 : decode jdk_52_method_16_code 1 = .ok (.newarray .byte, 2) := by decide +kernel
theorem d_cpB1_3 : decode jdk_52_method_16_code 3 = .ok (.astore_n 3, 1) := by decide +kernel
theorem d_cpB1_4 : decode jdk_52_method_16_code 4 = .ok (.aload_n 0, 1) := by decide +kernel
theorem d_cpB1_5 : decode jdk_52_method_16_code 5 = .ok (.iload_n 1, 1) := by decide +kernel
theorem d_cpB1_6 : decode jdk_52_method_16_code 6 = .ok (.aload_n 3, 1) := by decide +kernel
theorem d_cpB1_7 : decode jdk_52_method_16_code 7 = .ok (.iconst 0, 1) := by decide +kernel
theorem d_cpB1_8 : decode jdk_52_method_16_code 8 = .ok (.iload_n 2, 1) := by decide +kernel
theorem d_cpB1_9 : decode jdk_52_method_16_code 9 = .ok (.invokestatic 115, 3) := by decide +kernel
theorem d_cpB1_12 : decode jdk_52_method_16_code 12 = .ok (.istore 4, 2) := by decide +kernel
theorem d_cpB1_14 : decode jdk_52_method_16_code 14 = .ok (.iload 4, 2) := by decide +kernel
theorem d_cpB1_16 : decode jdk_52_method_16_code 16 = .ok (.iload_n 2, 1) := by decide +kernel
theorem d_cpB1_17 : decode jdk_52_method_16_code 17 = .ok (.if_icmp .eq 40, 3) := by decide +kernel
theorem d_cpB1_57 : decode jdk_52_method_16_code 57 = .ok (.aload_n 3, 1) := by decide +kernel
theorem d_cpB1_58 : decode jdk_52_method_16_code 58 = .ok (.areturn, 1) := by decide +kernel
theorem pd0 : parseMethodDescriptor "([CI[BII)I" = some ⟨[(.array .char), .int, (.array .byte), .int, .int], some .int⟩ := by decide +kernel
theorem ef_cpB1 (m : MethodId) (a0 : Addr) : entryFrame m #[(.ref a0), (.int (0 : Int32)), (.int (1 : Int32))] 6 = mkF m 0 #[.val (.ref a0), .val (.int (0 : Int32)), .val (.int (1 : Int32)), .unset, .unset, .unset] [] := by first | (simp [entryFrame, mkF, argsToLocals, Value.category]; done) | rfl
def Q_cpB1 (Z : State) (a0 : Addr) (kc : ClassId) (c0 : Int32) (h0 : Heap) (n0 : Nat) (v : Option Value) (h : Heap) (L : List Loc) : Prop := ∃ (ob : Addr), ∃ (kb : ClassId), v = some (.ref ob) ∧ Fr n0 L ∧ Keep h0 h [] ∧ h0.size ≤ ob ∧ Exa Z h ob "[B" ∧ Arv Z h ob kb .byte (1 : Int32) [(.int (c0.toInt8.toInt32))] (.int (0 : Int32))
set_option maxRecDepth 65536 in
set_option maxHeartbeats 40000000 in
theorem rm_cpB1 (l : Launch) (Z : State) (aT : Array Value) (hw : ∀ d ∈ tables_1, d.before aT Z = true) (ws : List Jvm.Cond) (a0 : Addr) (kc : ClassId) (c0 : Int32) (h0 : Heap) (n0 : Nat) (Z0 : n0 ≤ h0.size) (hp0 : Arv Z h0 a0 kc .char (1 : Int32) [(.int c0)] (.int (0 : Int32))) (hq0 : ¬ ((255 : Int32) < c0)) :
    MetFree l (⟨"java/lang/StringUTF16", "compress", "([CII)[B"⟩ : MethodName) (head1 (Jvm.Cond.code (⟨"java/lang/StringUTF16", "compress", "([CII)[B"⟩ : MethodName) jdk_52_method_16_code 6 (some (.array .byte)) :: ws) ({ frames := 1, cells := 1, slots := 1, locals := 18 } : Room)) (fun a U => a = #[(.ref a0), (.int (0 : Int32)), (.int (1 : Int32))] ∧ Z.Warmed39 U.vm ∧ U.heap = h0) (fun _ _ _ _ _ => True) (fun _ U o U' => ∃ v L, o = .returned v ∧ Q_cpB1 Z a0 kc c0 h0 n0 v U'.heap L ∧ FrameEnd U o U' L ({ frames := 1, cells := 1, slots := 1, locals := 18 } : Room).cells ({ frames := 1, cells := 1, slots := 1, locals := 18 } : Room).slots) := by
  refine MetFree.of_bodySF (plainFor_of_name pn0) hisR ?_
  intro p e s m args below meth c s₁ Bd hml0 hP hK
  obtain ⟨rfl, hZ, hh⟩ := hP
  have hx := Bd.exec
  have hby := Bd.bytes
  have hml : c.maxLocals = 6 := hml0
  have hown : s.vm.findClass "java/lang/StringUTF16" = some m.cls := findClass_of_methodNamed Bd.named
  have hnm := (name_of_methodNamed Bd.named Bd.method).1
  have hlk := Bd.notSynchronized
  have hrt := Bd.returns
  have X0 : Stand p l e ({ frames := 1, cells := 1, slots := 1, locals := 18 } : Room) s m #[(.ref a0), (.int (0 : Int32)), (.int (1 : Int32))] below meth c s₁ [] 0 0 := Stand.of_body Bd
  have e0 : s₁.heap = h0 := by rw [← hh, Bd.state]; rfl
  have N0 := Fr.nil n0
  refine own_cast (P := own_End s (Q_cpB1 Z a0 kc c0 h0 n0) ({ frames := 1, cells := 1, slots := 1, locals := 18 } : Room).cells ({ frames := 1, cells := 1, slots := 1, locals := 18 } : Room).slots) (ef_cpB1 m a0) ?_
  refine g_iloadN X0 hx hby d_cpB1_0 rfl (rfl : 0 + 1 = 1) ?_
  obtain ⟨T3, h3, k3, X3, e3, E3, A3, B3, st3⟩ := newPE X0 hx hZ (hw _ (List.mem_of_getElem? (i := 22) rfl)) e0 (g := (mkF m 1 #[.val (.ref a0), .val (.int (0 : Int32)), .val (.int (1 : Int32)), .unset, .unset, .unset] [(.int (1 : Int32))])) rfl (hb hby d_cpB1_1) rfl (by decide) (cap := 1) (by decide) (by decide) (by decide) (by decide) (ad := "[B") (by decide +kernel)
  obtain ⟨b3, g3⟩ : ∃ z, z = h0.size := ⟨_, rfl⟩
  rw [← g3] at A3 B3 st3
  have ne4 : a0 ≠ b3 := Nat.ne_of_lt (Nat.lt_of_lt_of_le (hp0).lt (Nat.le_of_eq g3.symm))
  have Z3 : n0 ≤ h3.size := Nat.le_trans Z0 E3.1
  have K3 : Keep h0 h3 [] := (Keep.refl h0 []).ext E3
  have ge3 : n0 ≤ b3 := Nat.le_trans Z0 (Nat.le_of_eq g3.symm)
  have sz3 : h0.size ≤ b3 := Nat.le_trans (Keep.refl h0 []).1 (Nat.le_of_eq g3.symm)
  have V3 : Arv Z h3 b3 k3 .byte (1 : Int32) [(.int (0 : Int32))] (.int (0 : Int32)) := (Arv.new A3 (by decide)).pad (pad_rep [] _ 1)
  refine own_go st3 ?_
  show own_Got p e below _ T3 (mkF m 3 #[.val (.ref a0), .val (.int (0 : Int32)), .val (.int (1 : Int32)), .unset, .unset, .unset] [(.ref b3)])
  refine g_astoreN X3 hx hby #[.val (.ref a0), .val (.int (0 : Int32)), .val (.int (1 : Int32)), .val (.ref b3), .unset, .unset] d_cpB1_3 rfl rfl (rfl : 3 + 1 = 4) ?_
  refine g_aloadN X3 hx hby d_cpB1_4 rfl rfl (rfl : 4 + 1 = 5) ?_
  refine g_iloadN X3 hx hby d_cpB1_5 rfl (rfl : 5 + 1 = 6) ?_
  refine g_aloadN X3 hx hby d_cpB1_6 rfl rfl (rfl : 6 + 1 = 7) ?_
  refine g_iconst X3 hx hby (0 : Int32) d_cpB1_7 (by decide) (rfl : 7 + 1 = 8) ?_
  refine g_iloadN X3 hx hby d_cpB1_8 rfl (rfl : 8 + 1 = 9) ?_
  have f6 : Arv Z h3 a0 kc .char (1 : Int32) [(.int c0)] (.int (0 : Int32)) := (hp0.ext E3)
  obtain ⟨_, _, ⟨T5, L5, k5, n5⟩, -, X5, ⟨Lc5, hQ5, l5, y5, z5⟩, st5⟩ := Jvm.LawKit.callS X3 hx (y := (⟨"java/lang/StringUTF16", "compress", "([CI[BII)I"⟩ : MethodName)) hown (mvT hZ (hw _ (List.mem_of_getElem? (i := 69) rfl))) (mvT hZ (hw _ (List.mem_of_getElem? (i := 70) rfl))) (mvT hZ (hw _ (List.mem_of_getElem? (i := 67) rfl))) (mvT hZ (hw _ (List.mem_of_getElem? (i := 71) rfl))) (by decide) (backOf (W := 0) (rm_cpI1 l Z aT hw [] a0 b3 kc c0 k3 h3 n0 Z3 f6 B3 V3 ge3 ne4 hq0) hZ (hw _ (List.mem_of_getElem? (i := 71) rfl)) (hw _ (List.mem_of_getElem? (i := 67) rfl)) (by decide) (by decide)) (g := (mkF m 9 #[.val (.ref a0), .val (.int (0 : Int32)), .val (.int (1 : Int32)), .val (.ref b3), .unset, .unset] [(.int (1 : Int32)), (.int (0 : Int32)), (.ref b3), (.int (0 : Int32)), (.ref a0)])) rfl (by rw [hml]; rfl) (argsL := [(.ref a0), (.int (0 : Int32)), (.ref b3), (.int (0 : Int32)), (.int (1 : Int32))]) (rest := []) (lenOf pd0 rfl) rfl (by show 2 * 0 + _ ≤ _; exact Nat.le_of_eq rfl) (hb hby d_cpB1_9) (fun _ _ => ⟨rfl, e3, (by decide : 1 + 0 ≤ _), (by decide : 1 + 0 ≤ _)⟩)
  dsimp only [Pt.U, Pt.locs, Pt.cells, Pt.slots] at X5 l5 y5 z5 st5 hQ5
  subst l5 y5 z5
  obtain ⟨rfl, N5q, K5, q5_0, q5_1⟩ := hQ5
  have N5 := Fr.app N0 N5q
  have Z5 : n0 ≤ T5.heap.size := Nat.le_trans Z3 K5.1
  have KC5 : Keep h0 T5.heap [] := K3.trans K5 (allS (Or.inr sz3) all0)
  refine own_go st5 ?_
  show own_Got p e below _ T5 (mkF m 12 #[.val (.ref a0), .val (.int (0 : Int32)), .val (.int (1 : Int32)), .val (.ref b3), .unset, .unset] [(.int (1 : Int32))])
  refine g_istore X5 hx hby #[.val (.ref a0), .val (.int (0 : Int32)), .val (.int (1 : Int32)), .val (.ref b3), .val (.int (1 : Int32)), .unset] d_cpB1_12 rfl (rfl : 12 + 2 = 14) ?_
  refine g_iload X5 hx hby d_cpB1_14 rfl (rfl : 14 + 2 = 16) ?_
  refine g_iloadN X5 hx hby d_cpB1_16 rfl (rfl : 16 + 1 = 17) ?_
  refine g_icT X5 hx hby d_cpB1_17 (teq (by decide : (1 : Int32) = (1 : Int32))).1 (by decide) (pc' := 57) (by decide) ?_
  refine g_aloadN X5 hx hby d_cpB1_57 rfl rfl (rfl : 57 + 1 = 58) ?_
  refine own_retR X5 hx hby hlk hrt rfl d_cpB1_58 (by decide) (by decide) rfl ?_
  show Q_cpB1 Z a0 kc c0 h0 n0 _ T5.heap _
  exact ⟨b3, k3, rfl, N5, KC5, sz3, q5_0, q5_1⟩
theorem d_cfl1_0 : decode jdk_52_method_15_code 0 = .ok (.iload_n 1, 1) := by decide +kernel
theorem d_cfl1_1 : decode jdk_52_method_15_code 1 = .ok (.aload_n 0, 1) := by decide +kernel
theorem d_cfl1_2 : decode jdk_52_method_15_code 2 = .ok (.arraylength, 1) := by decide +kernel
theorem d_cfl1_3 : decode jdk_52_method_15_code 3 = .ok (.isub, 1) := by decide +kernel
theorem d_cfl1_4 : decode jdk_52_method_15_code 4 = .ok (.bipush 31, 2) := by decide +kernel
theorem d_cfl1_6 : decode jdk_52_method_15_code 6 = .ok (.iushr, 1) := by decide +kernel
theorem d_cfl1_7 : decode jdk_52_method_15_code 7 = .ok (.i2b, 1) := by decide +kernel
theorem d_cfl1_8 : decode jdk_52_method_15_code 8 = .ok (.ireturn, 1) := by decide +kernel
theorem ef_cfl1 (m : MethodId) (a0 : Addr) : entryFrame m #[(.ref a0), (.int (1 : Int32))] 2 = mkF m 0 #[.val (.ref a0), .val (.int (1 : Int32))] [] := by first | (simp [entryFrame, mkF, argsToLocals, Value.category]; done) | rfl
def Q_cfl1 (Z : State) (a0 : Addr) (kb : ClassId) (vs : List Value) (h0 : Heap) (n0 : Nat) (v : Option Value) (h : Heap) (L : List Loc) : Prop := v = some (.int (0 : Int32)) ∧ Fr n0 L ∧ h = h0
set_option maxRecDepth 65536 in
set_option maxHeartbeats 40000000 in
theorem rm_cfl1 (l : Launch) (Z : State) (aT : Array Value) (hw : ∀ d ∈ tables_1, d.before aT Z = true) (ws : List Jvm.Cond) (a0 : Addr) (kb : ClassId) (vs : List Value) (h0 : Heap) (n0 : Nat) (Z0 : n0 ≤ h0.size) (hp0 : Arv Z h0 a0 kb .byte (1 : Int32) vs (.int (0 : Int32))) :
    MetFree l (⟨"java/lang/StringUTF16", "coderFromArrayLen", "([BI)B"⟩ : MethodName) (head1 (Jvm.Cond.code (⟨"java/lang/StringUTF16", "coderFromArrayLen", "([BI)B"⟩ : MethodName) jdk_52_method_15_code 2 (some .byte) :: ws) ({ frames := 0, cells := 0, slots := 0, locals := 0 } : Room)) (fun a U => a = #[(.ref a0), (.int (1 : Int32))] ∧ Z.Warmed39 U.vm ∧ U.heap = h0) (fun _ _ _ _ _ => True) (fun _ U o U' => ∃ v L, o = .returned v ∧ Q_cfl1 Z a0 kb vs h0 n0 v U'.heap L ∧ FrameEnd U o U' L ({ frames := 0, cells := 0, slots := 0, locals := 0 } : Room).cells ({ frames := 0, cells := 0, slots := 0, locals := 0 } : Room).slots) := by
  refine MetFree.of_bodySF (plainFor_of_name pn0) hisR ?_
  intro p e s m args below meth c s₁ Bd hml0 hP hK
  obtain ⟨rfl, hZ, hh⟩ := hP
  have hx := Bd.exec
  have hby := Bd.bytes
  have hml : c.maxLocals = 2 := hml0
  have hown : s.vm.findClass "java/lang/StringUTF16" = some m.cls := findClass_of_methodNamed Bd.named
  have hnm := (name_of_methodNamed Bd.named Bd.method).1
  have hlk := Bd.notSynchronized
  have hrt := Bd.returns
  have X0 : Stand p l e ({ frames := 0, cells := 0, slots := 0, locals := 0 } : Room) s m #[(.ref a0), (.int (1 : Int32))] below meth c s₁ [] 0 0 := Stand.of_body Bd
  have e0 : s₁.heap = h0 := by rw [← hh, Bd.state]; rfl
  have N0 := Fr.nil n0
  refine own_cast (P := own_End s (Q_cfl1 Z a0 kb vs h0 n0) ({ frames := 0, cells := 0, slots := 0, locals := 0 } : Room).cells ({ frames := 0, cells := 0, slots := 0, locals := 0 } : Room).slots) (ef_cfl1 m a0) ?_
  refine g_iloadN X0 hx hby d_cfl1_0 rfl (rfl : 0 + 1 = 1) ?_
  refine g_aloadN X0 hx hby d_cfl1_1 rfl rfl (rfl : 1 + 1 = 2) ?_
  refine g_alen X0 hx hby hZ e0 hp0 d_cfl1_2 (rfl : 2 + 1 = 3) ?_
  refine g_isub X0 hx hby d_cfl1_3 (rfl : 3 + 1 = 4) ?_
  rw [(by decide : ((1 : Int32) - (1 : Int32)) = (0 : Int32))]
  refine g_bipush X0 hx hby (31 : Int32) d_cfl1_4 (by decide) (rfl : 4 + 2 = 6) ?_
  refine g_iushr X0 hx hby d_cfl1_6 (rfl : 6 + 1 = 7) ?_
  rw [(by decide : (((0 : Int32).toUInt32 >>> ((31 : Int32) &&& 31).toUInt32).toInt32) = (0 : Int32))]
  refine g_i2b X0 hx hby d_cfl1_7 (rfl : 7 + 1 = 8) ?_
  rw [(by decide : ((0 : Int32).toInt8.toInt32) = (0 : Int32))]
  refine own_retN X0 hx hby hlk (t := .byte) hrt (by simp) d_cfl1_8 (by decide) (by decide) ?_
  show Q_cfl1 Z a0 kb vs h0 n0 _ s₁.heap _
  exact ⟨rfl, N0, e0⟩
theorem d_si2_1_0 : decode jdk_42_method_149_code 0 = .ok (.aload_n 0, 1) := by decide +kernel
theorem d_si2_1_1 : decode jdk_42_method_149_code 1 = .ok (.invokespecial 1, 3) := by decide +kernel
theorem d_si2_1_4 : decode jdk_42_method_149_code 4 = .ok (.iload_n 3, 1) := by decide +kernel
theorem d_si2_1_5 : decode jdk_42_method_149_code 5 = .ok (.ifCond .ne 22, 3) := by decide +kernel
theorem d_si2_1_27 : decode jdk_42_method_149_code 27 = .ok (.getstatic 38, 3) := by decide +kernel
theorem d_si2_1_30 : decode jdk_42_method_149_code 30 = .ok (.ifCond .eq 28, 3) := by decide +kernel
theorem d_si2_1_33 : decode jdk_42_method_149_code 33 = .ok (.aload_n 1, 1) := by decide +kernel
theorem d_si2_1_34 : decode jdk_42_method_149_code 34 = .ok (.iload_n 2, 1) := by decide +kernel
theorem d_si2_1_35 : decode jdk_42_method_149_code 35 = .ok (.iload_n 3, 1) := by decide +kernel
theorem d_si2_1_36 : decode jdk_42_method_149_code 36 = .ok (.invokestatic 177, 3) := by decide +kernel
theorem d_si2_1_39 : decode jdk_42_method_149_code 39 = .ok (.astore 5, 2) := by decide +kernel
theorem d_si2_1_41 : decode jdk_42_method_149_code 41 = .ok (.aload_n 0, 1) := by decide +kernel
theorem d_si2_1_42 : decode jdk_42_method_149_code 42 = .ok (.aload 5, 2) := by decide +kernel
theorem d_si2_1_44 : decode jdk_42_method_149_code 44 = .ok (.iload_n 3, 1) := by decide +kernel
theorem d_si2_1_45 : decode jdk_42_method_149_code 45 = .ok (.invokestatic 47, 3) := by decide +kernel
theorem d_si2_1_48 : decode jdk_42_method_149_code 48 = .ok (.putfield 15, 3) := by decide +kernel
theorem d_si2_1_51 : decode jdk_42_method_149_code 51 = .ok (.aload_n 0, 1) := by decide +kernel
theorem d_si2_1_52 : decode jdk_42_method_149_code 52 = .ok (.aload 5, 2) := by decide +kernel
theorem d_si2_1_54 : decode jdk_42_method_149_code 54 = .ok (.putfield 9, 3) := by decide +kernel
theorem d_si2_1_57 : decode jdk_42_method_149_code 57 = .ok (.return_, 1) := by decide +kernel
theorem pn1 : plainName "java/lang/String" = true := by first | (simp [plainName, overriddenIn]; done) | decide +kernel
theorem pd1 : parseMethodDescriptor "([CII)[B" = some ⟨[(.array .char), .int, .int], some (.array .byte)⟩ := by decide +kernel
theorem pd2 : parseMethodDescriptor "([BI)B" = some ⟨[(.array .byte), .int], some .byte⟩ := by decide +kernel
theorem ef_si2_1 (m : MethodId) (a0 : Addr) (a1 : Addr) : entryFrame m #[(.ref a0), (.ref a1), (.int (0 : Int32)), (.int (1 : Int32)), .null] 6 = mkF m 0 #[.val (.ref a0), .val (.ref a1), .val (.int (0 : Int32)), .val (.int (1 : Int32)), .val .null, .unset] [] := by first | (simp [entryFrame, mkF, argsToLocals, Value.category]; done) | rfl
def Q_si2_1 (Z : State) (a0 : Addr) (a1 : Addr) (kc : ClassId) (c0 : Int32) (g1 : Int32) (h0 : Heap) (n0 : Nat) (v : Option Value) (h : Heap) (L : List Loc) : Prop := ∃ (ob : Addr), ∃ (kb : ClassId), v = none ∧ Fr n0 L ∧ Keep h0 h [a0] ∧ Exa Z h a0 "java/lang/String" ∧ Fld Z h a0 "java/lang/String" "coder" "B" (.int (0 : Int32)) ∧ Fld Z h a0 "java/lang/String" "value" "[B" (.ref ob) ∧ h0.size ≤ ob ∧ Exa Z h ob "[B" ∧ Arv Z h ob kb .byte (1 : Int32) [(.int (c0.toInt8.toInt32))] (.int (0 : Int32))
set_option maxRecDepth 65536 in
set_option maxHeartbeats 40000000 in
theorem rm_si2_1 (l : Launch) (Z : State) (aT : Array Value) (hw : ∀ d ∈ tables_1, d.before aT Z = true) (ws : List Jvm.Cond) (a0 : Addr) (a1 : Addr) (kc : ClassId) (c0 : Int32) (g1 : Int32) (h0 : Heap) (n0 : Nat) (Z0 : n0 ≤ h0.size) (hp0 : Exa Z h0 a0 "java/lang/String") (hp1 : Fld Z h0 a0 "java/lang/String" "value" "[B" .null) (hp2 : Fld Z h0 a0 "java/lang/String" "coder" "B" (.int (0 : Int32))) (hp3 : n0 ≤ a0) (hp4 : Arv Z h0 a1 kc .char (1 : Int32) [(.int c0)] (.int (0 : Int32))) (hp5 : Sta Z h0 "java/lang/String" "COMPACT_STRINGS" "Z" (.int g1)) (hq0 : ¬ ((255 : Int32) < c0)) (hg1 : ¬ (g1 = (0 : Int32))) :
    MetFree l (⟨"java/lang/String", "<init>", "([CIILjava/lang/Void;)V"⟩ : MethodName) (head1 (Jvm.Cond.code (⟨"java/lang/String", "<init>", "([CIILjava/lang/Void;)V"⟩ : MethodName) jdk_42_method_149_code 6 none :: ws) ({ frames := 2, cells := 1, slots := 1, locals := 35 } : Room)) (fun a U => a = #[(.ref a0), (.ref a1), (.int (0 : Int32)), (.int (1 : Int32)), .null] ∧ Z.Warmed39 U.vm ∧ U.heap = h0) (fun _ _ _ _ _ => True) (fun _ U o U' => ∃ v L, o = .returned v ∧ Q_si2_1 Z a0 a1 kc c0 g1 h0 n0 v U'.heap L ∧ FrameEnd U o U' L ({ frames := 2, cells := 1, slots := 1, locals := 35 } : Room).cells ({ frames := 2, cells := 1, slots := 1, locals := 35 } : Room).slots) := by
  refine MetFree.of_bodySF (plainFor_of_name pn1) hisR ?_
  intro p e s m args below meth c s₁ Bd hml0 hP hK
  obtain ⟨rfl, hZ, hh⟩ := hP
  have hx := Bd.exec
  have hby := Bd.bytes
  have hml : c.maxLocals = 6 := hml0
  have hown : s.vm.findClass "java/lang/String" = some m.cls := findClass_of_methodNamed Bd.named
  have hnm := (name_of_methodNamed Bd.named Bd.method).1
  have hlk := Bd.notSynchronized
  have hrt := Bd.returns
  have X0 : Stand p l e ({ frames := 2, cells := 1, slots := 1, locals := 35 } : Room) s m #[(.ref a0), (.ref a1), (.int (0 : Int32)), (.int (1 : Int32)), .null] below meth c s₁ [] 0 0 := Stand.of_body Bd
  have e0 : s₁.heap = h0 := by rw [← hh, Bd.state]; rfl
  have N0 := Fr.nil n0
  refine own_cast (P := own_End s (Q_si2_1 Z a0 a1 kc c0 g1 h0 n0) ({ frames := 2, cells := 1, slots := 1, locals := 35 } : Room).cells ({ frames := 2, cells := 1, slots := 1, locals := 35 } : Room).slots) (ef_si2_1 m a0 a1) ?_
  refine g_aloadN X0 hx hby d_si2_1_0 rfl rfl (rfl : 0 + 1 = 1) ?_
  obtain ⟨T7, X7, e7, st7⟩ := initO X0 hx hZ hown (hw _ (List.mem_of_getElem? (i := 18) rfl)) (hw _ (List.mem_of_getElem? (i := 19) rfl)) (hw _ (List.mem_of_getElem? (i := 20) rfl)) e0 (g := (mkF m 1 #[.val (.ref a0), .val (.ref a1), .val (.int (0 : Int32)), .val (.int (1 : Int32)), .val .null, .unset] [(.ref a0)])) rfl (by rw [hml]; rfl) rfl (hb hby d_si2_1_1) (by decide) (W := 0) (by show 2 * 0 + _ ≤ _; exact Nat.le_of_eq rfl) (by decide)
  refine own_go st7 ?_
  show own_Got p e below _ T7 (mkF m 4 #[.val (.ref a0), .val (.ref a1), .val (.int (0 : Int32)), .val (.int (1 : Int32)), .val .null, .unset] [])
  refine g_iloadN X7 hx hby d_si2_1_4 rfl (rfl : 4 + 1 = 5) ?_
  refine g_ifT X7 hx hby d_si2_1_5 ((if0 _ _).trans (feq (by decide : ¬ ((1 : Int32) = (0 : Int32)))).2) (by decide) (pc' := 27) (by decide) ?_
  obtain ⟨T8, X8, e8, st8⟩ := getS2 X7 hx hZ hown (host := "") (Or.inl (hw _ (List.mem_of_getElem? (i := 60) rfl))) Via.refl e7 hp5 (g := (mkF m 27 #[.val (.ref a0), .val (.ref a1), .val (.int (0 : Int32)), .val (.int (1 : Int32)), .val .null, .unset] [])) rfl (hb hby d_si2_1_27)
  refine own_go st8 ?_
  show own_Got p e below _ T8 (mkF m 30 #[.val (.ref a0), .val (.ref a1), .val (.int (0 : Int32)), .val (.int (1 : Int32)), .val .null, .unset] [(.int g1)])
  refine g_ifF X8 hx hby d_si2_1_30 ((if0 _ _).trans (feq hg1).1) (rfl : 30 + 3 = 33) ?_
  refine g_aloadN X8 hx hby d_si2_1_33 rfl rfl (rfl : 33 + 1 = 34) ?_
  refine g_iloadN X8 hx hby d_si2_1_34 rfl (rfl : 34 + 1 = 35) ?_
  refine g_iloadN X8 hx hby d_si2_1_35 rfl (rfl : 35 + 1 = 36) ?_
  obtain ⟨_, _, ⟨T9, L9, k9, n9⟩, -, X9, ⟨Lc9, hQ9, l9, y9, z9⟩, st9⟩ := Jvm.LawKit.callS X8 hx (y := (⟨"java/lang/StringUTF16", "compress", "([CII)[B"⟩ : MethodName)) hown (mvT hZ (hw _ (List.mem_of_getElem? (i := 65) rfl))) (mvT hZ (hw _ (List.mem_of_getElem? (i := 66) rfl))) (mvT hZ (hw _ (List.mem_of_getElem? (i := 67) rfl))) (mvT hZ (hw _ (List.mem_of_getElem? (i := 68) rfl))) (by decide) (backOf (W := 0) (rm_cpB1 l Z aT hw [] a1 kc c0 h0 n0 Z0 hp4 hq0) hZ (hw _ (List.mem_of_getElem? (i := 68) rfl)) (hw _ (List.mem_of_getElem? (i := 67) rfl)) (by decide) (by decide)) (g := (mkF m 36 #[.val (.ref a0), .val (.ref a1), .val (.int (0 : Int32)), .val (.int (1 : Int32)), .val .null, .unset] [(.int (1 : Int32)), (.int (0 : Int32)), (.ref a1)])) rfl (by rw [hml]; rfl) (argsL := [(.ref a1), (.int (0 : Int32)), (.int (1 : Int32))]) (rest := []) (lenOf pd1 rfl) rfl (by show 2 * 0 + _ ≤ _; exact Nat.le_of_eq rfl) (hb hby d_si2_1_36) (fun _ _ => ⟨rfl, e8, (by decide : 0 + 1 ≤ _), (by decide : 0 + 1 ≤ _)⟩)
  dsimp only [Pt.U, Pt.locs, Pt.cells, Pt.slots] at X9 l9 y9 z9 st9 hQ9
  subst l9 y9 z9
  obtain ⟨ob_9, kb_9, rfl, N9q, K9, q9_0, q9_1, q9_2⟩ := hQ9
  have N9 := Fr.app N0 N9q
  have Z9 : n0 ≤ T9.heap.size := Nat.le_trans Z0 K9.1
  have KC9 : Keep h0 T9.heap [a0] := (Keep.refl h0 [a0]).trans K9 all0
  have ne10 : a0 ≠ ob_9 := Nat.ne_of_lt (Nat.lt_of_lt_of_le (hp0).lt q9_0)
  have ne11 : a1 ≠ ob_9 := Nat.ne_of_lt (Nat.lt_of_lt_of_le (hp4).lt q9_0)
  have ge12 : n0 ≤ ob_9 := Nat.le_trans Z0 q9_0
  have sz13 : h0.size ≤ ob_9 := Nat.le_trans (Keep.refl h0 [a0]).1 q9_0
  refine own_go st9 ?_
  show own_Got p e below _ T9 (mkF m 39 #[.val (.ref a0), .val (.ref a1), .val (.int (0 : Int32)), .val (.int (1 : Int32)), .val .null, .unset] [(.ref ob_9)])
  refine g_astore X9 hx hby #[.val (.ref a0), .val (.ref a1), .val (.int (0 : Int32)), .val (.int (1 : Int32)), .val .null, .val (.ref ob_9)] d_si2_1_39 rfl rfl (rfl : 39 + 2 = 41) ?_
  refine g_aloadN X9 hx hby d_si2_1_41 rfl rfl (rfl : 41 + 1 = 42) ?_
  refine g_aload X9 hx hby d_si2_1_42 rfl rfl (rfl : 42 + 2 = 44) ?_
  refine g_iloadN X9 hx hby d_si2_1_44 rfl (rfl : 44 + 1 = 45) ?_
  obtain ⟨_, _, ⟨T14, L14, k14, n14⟩, -, X14, ⟨Lc14, hQ14, l14, y14, z14⟩, st14⟩ := Jvm.LawKit.callS X9 hx (y := (⟨"java/lang/StringUTF16", "coderFromArrayLen", "([BI)B"⟩ : MethodName)) hown (mvT hZ (hw _ (List.mem_of_getElem? (i := 72) rfl))) (mvT hZ (hw _ (List.mem_of_getElem? (i := 73) rfl))) (mvT hZ (hw _ (List.mem_of_getElem? (i := 67) rfl))) (mvT hZ (hw _ (List.mem_of_getElem? (i := 74) rfl))) (by decide) (backOf (W := 1) (rm_cfl1 l Z aT hw [] ob_9 kb_9 [(.int (c0.toInt8.toInt32))] T9.heap n0 Z9 q9_2) hZ (hw _ (List.mem_of_getElem? (i := 74) rfl)) (hw _ (List.mem_of_getElem? (i := 67) rfl)) (by decide) (by decide)) (g := (mkF m 45 #[.val (.ref a0), .val (.ref a1), .val (.int (0 : Int32)), .val (.int (1 : Int32)), .val .null, .val (.ref ob_9)] [(.int (1 : Int32)), (.ref ob_9), (.ref a0)])) rfl (by rw [hml]; rfl) (argsL := [(.ref ob_9), (.int (1 : Int32))]) (rest := [(.ref a0)]) (lenOf pd2 rfl) rfl (by show 2 * 0 + _ ≤ _; exact Nat.le_of_eq rfl) (hb hby d_si2_1_45) (fun _ _ => ⟨rfl, rfl, (by decide : 1 + 0 ≤ _), (by decide : 1 + 0 ≤ _)⟩)
  dsimp only [Pt.U, Pt.locs, Pt.cells, Pt.slots] at X14 l14 y14 z14 st14 hQ14
  subst l14 y14 z14
  obtain ⟨rfl, N14q, eq14⟩ := hQ14
  have N14 := Fr.app N9 N14q
  refine own_go st14 ?_
  show own_Got p e below _ T14 (mkF m 48 #[.val (.ref a0), .val (.ref a1), .val (.int (0 : Int32)), .val (.int (1 : Int32)), .val .null, .val (.ref ob_9)] [(.int (0 : Int32)), (.ref a0)])
  have f15 : Fld Z T9.heap a0 "java/lang/String" "coder" "B" (.int (0 : Int32)) := (Fld.keep hp2 K9 nin0)
  have f16 : Exa Z T9.heap a0 "java/lang/String" := (Exa.keep hp0 K9)
  obtain ⟨T17, h17, X17, e17, W17, st17⟩ := putFN X14 hx hZ hown (hw _ (List.mem_of_getElem? (i := 28) rfl)) Via.refl eq14 f15 f16 (Or.inr ⟨(hw _ (List.mem_of_getElem? (i := 24) rfl)), rfl, hnm⟩) (hw _ (List.mem_of_getElem? (i := 8) rfl)) (ty := .byte) (v' := (.int (0 : Int32))) (by decide) rfl rfl (g := (mkF m 48 #[.val (.ref a0), .val (.ref a1), .val (.int (0 : Int32)), .val (.int (1 : Int32)), .val .null, .val (.ref ob_9)] [(.int (0 : Int32)), (.ref a0)])) rfl rfl (hb hby d_si2_1_48)
  have Z17 : n0 ≤ h17.size := Nat.le_trans Z9 (Keep.of_wr W17).1
  have N17 := Fr.snoc X17 N14 hp3
  have K17 : Keep h0 h17 [a0] := KC9.wr W17 (Or.inl (List.mem_of_getElem? (i := 0) rfl))
  have f17 : Fld Z h17 a0 "java/lang/String" "coder" "B" (.int (0 : Int32)) := Fld.same W17 f15
  refine own_go st17 ?_
  show own_Got p e below _ T17 (mkF m 51 #[.val (.ref a0), .val (.ref a1), .val (.int (0 : Int32)), .val (.int (1 : Int32)), .val .null, .val (.ref ob_9)] [])
  refine g_aloadN X17 hx hby d_si2_1_51 rfl rfl (rfl : 51 + 1 = 52) ?_
  refine g_aload X17 hx hby d_si2_1_52 rfl rfl (rfl : 52 + 2 = 54) ?_
  have f18 : Fld Z h17 a0 "java/lang/String" "value" "[B" .null := (Fld.other W17 (Fld.keep hp1 K9 nin0) (Or.inr (slot_ne (Or.inr (hw _ (List.mem_of_getElem? (i := 23) rfl))) (Or.inr (hw _ (List.mem_of_getElem? (i := 24) rfl))) (by decide) (t := (.array .byte)) (t' := .byte) (by decide) (by decide))))
  have f19 : Exa Z h17 a0 "java/lang/String" := (Exa.wr W17 f16)
  obtain ⟨T20, h20, X20, e20, W20, st20⟩ := putF X17 hx hZ hown (host := "") (Or.inl (hw _ (List.mem_of_getElem? (i := 27) rfl))) Via.refl e17 f18 f19 (Or.inr ⟨(hw _ (List.mem_of_getElem? (i := 23) rfl)), rfl, hnm⟩) (hw _ (List.mem_of_getElem? (i := 8) rfl)) (ty := (.array .byte)) (by decide) rfl rfl (g := (mkF m 54 #[.val (.ref a0), .val (.ref a1), .val (.int (0 : Int32)), .val (.int (1 : Int32)), .val .null, .val (.ref ob_9)] [(.ref ob_9), (.ref a0)])) rfl rfl (hb hby d_si2_1_54)
  have Z20 : n0 ≤ h20.size := Nat.le_trans Z17 (Keep.of_wr W20).1
  have N20 := Fr.snoc X20 N17 hp3
  have K20 : Keep h0 h20 [a0] := K17.wr W20 (Or.inl (List.mem_of_getElem? (i := 0) rfl))
  have f20 : Fld Z h20 a0 "java/lang/String" "value" "[B" (.ref ob_9) := Fld.same W20 f18
  refine own_go st20 ?_
  show own_Got p e below _ T20 (mkF m 57 #[.val (.ref a0), .val (.ref a1), .val (.int (0 : Int32)), .val (.int (1 : Int32)), .val .null, .val (.ref ob_9)] [])
  have f21 : Exa Z h20 a0 "java/lang/String" := (Exa.wr W20 f19)
  have f22 : Fld Z h20 a0 "java/lang/String" "coder" "B" (.int (0 : Int32)) := (Fld.other W20 f17 (Or.inr (slot_ne (Or.inr (hw _ (List.mem_of_getElem? (i := 24) rfl))) (Or.inr (hw _ (List.mem_of_getElem? (i := 23) rfl))) (by decide) (t := .byte) (t' := (.array .byte)) (by decide) (by decide))))
  have f23 : Exa Z h20 ob_9 "[B" := (Exa.wr W20 (Exa.wr W17 q9_1))
  have f24 : Arv Z h20 ob_9 kb_9 .byte (1 : Int32) [(.int (c0.toInt8.toInt32))] (.int (0 : Int32)) := (Arv.other (Arv.other q9_2 W17 (Ne.symm ne10)) W20 (Ne.symm ne10))
  refine own_retV X20 hx hby hlk hrt d_si2_1_57 (by decide) (by decide) ?_
  show Q_si2_1 Z a0 a1 kc c0 g1 h0 n0 _ T20.heap _
  rw [e20]
  exact ⟨ob_9, kb_9, rfl, N20, K20, f21, f22, f20, sz13, f23, f24⟩
theorem d_si1_1_0 : decode jdk_42_method_3_code 0 = .ok (.aload_n 0, 1) := by decide +kernel
theorem d_si1_1_1 : decode jdk_42_method_3_code 1 = .ok (.aload_n 1, 1) := by decide +kernel
theorem d_si1_1_2 : decode jdk_42_method_3_code 2 = .ok (.iconst 0, 1) := by decide +kernel
theorem d_si1_1_3 : decode jdk_42_method_3_code 3 = .ok (.aload_n 1, 1) := by decide +kernel
theorem d_si1_1_4 : decode jdk_42_method_3_code 4 = .ok (.arraylength, 1) := by decide +kernel
theorem d_si1_1_5 : decode jdk_42_method_3_code 5 = .ok (.aconst_null, 1) := by decide +kernel
theorem d_si1_1_6 : decode jdk_42_method_3_code 6 = .ok (.invokespecial 27, 3) := by decide +kernel
theorem d_si1_1_9 : decode jdk_42_method_3_code 9 = .ok (.return_, 1) := by decide +kernel
theorem pd3 : parseMethodDescriptor "([CIILjava/lang/Void;)V" = some ⟨[(.array .char), .int, .int, (.object "java/lang/Void")], none⟩ := by decide +kernel
theorem ef_si1_1 (m : MethodId) (a0 : Addr) (a1 : Addr) : entryFrame m #[(.ref a0), (.ref a1)] 2 = mkF m 0 #[.val (.ref a0), .val (.ref a1)] [] := by first | (simp [entryFrame, mkF, argsToLocals, Value.category]; done) | rfl
def Q_si1_1 (Z : State) (a0 : Addr) (a1 : Addr) (kc : ClassId) (c0 : Int32) (g1 : Int32) (h0 : Heap) (n0 : Nat) (v : Option Value) (h : Heap) (L : List Loc) : Prop := ∃ (ob : Addr), ∃ (kb : ClassId), v = none ∧ Fr n0 L ∧ Keep h0 h [a0] ∧ Exa Z h a0 "java/lang/String" ∧ Fld Z h a0 "java/lang/String" "coder" "B" (.int (0 : Int32)) ∧ Fld Z h a0 "java/lang/String" "value" "[B" (.ref ob) ∧ h0.size ≤ ob ∧ Exa Z h ob "[B" ∧ Arv Z h ob kb .byte (1 : Int32) [(.int (c0.toInt8.toInt32))] (.int (0 : Int32))
set_option maxRecDepth 65536 in
set_option maxHeartbeats 40000000 in
theorem rm_si1_1 (l : Launch) (Z : State) (aT : Array Value) (hw : ∀ d ∈ tables_1, d.before aT Z = true) (ws : List Jvm.Cond) (a0 : Addr) (a1 : Addr) (kc : ClassId) (c0 : Int32) (g1 : Int32) (h0 : Heap) (n0 : Nat) (Z0 : n0 ≤ h0.size) (hp0 : Exa Z h0 a0 "java/lang/String") (hp1 : Fld Z h0 a0 "java/lang/String" "value" "[B" .null) (hp2 : Fld Z h0 a0 "java/lang/String" "coder" "B" (.int (0 : Int32))) (hp3 : n0 ≤ a0) (hp4 : Arv Z h0 a1 kc .char (1 : Int32) [(.int c0)] (.int (0 : Int32))) (hp5 : Sta Z h0 "java/lang/String" "COMPACT_STRINGS" "Z" (.int g1)) (hq0 : ¬ ((255 : Int32) < c0)) (hg1 : ¬ (g1 = (0 : Int32))) :
    MetFree l (⟨"java/lang/String", "<init>", "([C)V"⟩ : MethodName) (head1 (Jvm.Cond.code (⟨"java/lang/String", "<init>", "([C)V"⟩ : MethodName) jdk_42_method_3_code 2 none :: ws) ({ frames := 3, cells := 1, slots := 1, locals := 52 } : Room)) (fun a U => a = #[(.ref a0), (.ref a1)] ∧ Z.Warmed39 U.vm ∧ U.heap = h0) (fun _ _ _ _ _ => True) (fun _ U o U' => ∃ v L, o = .returned v ∧ Q_si1_1 Z a0 a1 kc c0 g1 h0 n0 v U'.heap L ∧ FrameEnd U o U' L ({ frames := 3, cells := 1, slots := 1, locals := 52 } : Room).cells ({ frames := 3, cells := 1, slots := 1, locals := 52 } : Room).slots) := by
  refine MetFree.of_bodySF (plainFor_of_name pn1) hisR ?_
  intro p e s m args below meth c s₁ Bd hml0 hP hK
  obtain ⟨rfl, hZ, hh⟩ := hP
  have hx := Bd.exec
  have hby := Bd.bytes
  have hml : c.maxLocals = 2 := hml0
  have hown : s.vm.findClass "java/lang/String" = some m.cls := findClass_of_methodNamed Bd.named
  have hnm := (name_of_methodNamed Bd.named Bd.method).1
  have hlk := Bd.notSynchronized
  have hrt := Bd.returns
  have X0 : Stand p l e ({ frames := 3, cells := 1, slots := 1, locals := 52 } : Room) s m #[(.ref a0), (.ref a1)] below meth c s₁ [] 0 0 := Stand.of_body Bd
  have e0 : s₁.heap = h0 := by rw [← hh, Bd.state]; rfl
  have N0 := Fr.nil n0
  refine own_cast (P := own_End s (Q_si1_1 Z a0 a1 kc c0 g1 h0 n0) ({ frames := 3, cells := 1, slots := 1, locals := 52 } : Room).cells ({ frames := 3, cells := 1, slots := 1, locals := 52 } : Room).slots) (ef_si1_1 m a0 a1) ?_
  refine g_aloadN X0 hx hby d_si1_1_0 rfl rfl (rfl : 0 + 1 = 1) ?_
  refine g_aloadN X0 hx hby d_si1_1_1 rfl rfl (rfl : 1 + 1 = 2) ?_
  refine g_iconst X0 hx hby (0 : Int32) d_si1_1_2 (by decide) (rfl : 2 + 1 = 3) ?_
  refine g_aloadN X0 hx hby d_si1_1_3 rfl rfl (rfl : 3 + 1 = 4) ?_
  refine g_alen X0 hx hby hZ e0 hp4 d_si1_1_4 (rfl : 4 + 1 = 5) ?_
  refine g_anull X0 hx hby d_si1_1_5 (rfl : 5 + 1 = 6) ?_
  obtain ⟨_, _, ⟨T25, L25, k25, n25⟩, -, X25, ⟨Lc25, hQ25, l25, y25, z25⟩, st25⟩ := X0.specialBack hx (y := (⟨"java/lang/String", "<init>", "([CIILjava/lang/Void;)V"⟩ : MethodName)) rfl hown (mvT hZ (hw _ (List.mem_of_getElem? (i := 14) rfl))) (mvT hZ (hw _ (List.mem_of_getElem? (i := 15) rfl))) (mvT hZ (hw _ (List.mem_of_getElem? (i := 17) rfl))) (by decide) (backOf (W := 0) (rm_si2_1 l Z aT hw [] a0 a1 kc c0 g1 h0 n0 Z0 hp0 hp1 hp2 hp3 hp4 hp5 hq0 hg1) hZ (hw _ (List.mem_of_getElem? (i := 17) rfl)) (hw _ (List.mem_of_getElem? (i := 9) rfl)) (by decide) (by decide)) (g := (mkF m 6 #[.val (.ref a0), .val (.ref a1)] [.null, (.int (1 : Int32)), (.int (0 : Int32)), (.ref a1), (.ref a0)])) rfl (by rw [hml]; rfl) (Steps.refl _) (a := a0) (argsL := [(.ref a1), (.int (0 : Int32)), (.int (1 : Int32)), .null]) (rest := []) (lenOf pd3 rfl) rfl (by show 2 * 0 + _ ≤ _; exact Nat.le_of_eq rfl) (hb hby d_si1_1_6) (fun _ _ => ⟨rfl, e0, (by decide : 0 + 1 ≤ _), (by decide : 0 + 1 ≤ _)⟩)
  dsimp only [Pt.U, Pt.locs, Pt.cells, Pt.slots] at X25 l25 y25 z25 st25 hQ25
  subst l25 y25 z25
  obtain ⟨ob_25, kb_25, rfl, N25q, K25, q25_0, q25_1, q25_2, q25_3, q25_4, q25_5⟩ := hQ25
  have N25 := Fr.app N0 N25q
  have Z25 : n0 ≤ T25.heap.size := Nat.le_trans Z0 K25.1
  have KC25 : Keep h0 T25.heap [a0] := (Keep.refl h0 [a0]).trans K25 (allS (Or.inl (List.mem_of_getElem? (i := 0) rfl)) all0)
  have ne26 : a0 ≠ ob_25 := Nat.ne_of_lt (Nat.lt_of_lt_of_le (hp0).lt q25_3)
  have ne27 : a1 ≠ ob_25 := Nat.ne_of_lt (Nat.lt_of_lt_of_le (hp4).lt q25_3)
  have ge28 : n0 ≤ ob_25 := Nat.le_trans Z0 q25_3
  have sz29 : h0.size ≤ ob_25 := Nat.le_trans (Keep.refl h0 [a0]).1 q25_3
  refine own_tr st25 ?_
  show own_Got p e below _ T25 (mkF m 9 #[.val (.ref a0), .val (.ref a1)] [])
  refine own_retV X25 hx hby hlk hrt d_si1_1_9 (by decide) (by decide) ?_
  show Q_si1_1 Z a0 a1 kc c0 g1 h0 n0 _ T25.heap _
  exact ⟨ob_25, kb_25, rfl, N25, KC25, q25_0, q25_1, q25_2, sz29, q25_4, q25_5⟩
theorem d_cpI2_0 : decode jdk_52_method_21_code 0 = .ok (.iconst 0, 1) := by decide +kernel
theorem d_cpI2_1 : decode jdk_52_method_21_code 1 = .ok (.istore 5, 2) := by decide +kernel
theorem d_cpI2_3 : decode jdk_52_method_21_code 3 = .ok (.iload 5, 2) := by decide +kernel
theorem d_cpI2_5 : decode jdk_52_method_21_code 5 = .ok (.iload 4, 2) := by decide +kernel
theorem d_cpI2_7 : decode jdk_52_method_21_code 7 = .ok (.if_icmp .ge 37, 3) := by decide +kernel
theorem d_cpI2_10 : decode jdk_52_method_21_code 10 = .ok (.aload_n 0, 1) := by decide +kernel
theorem d_cpI2_11 : decode jdk_52_method_21_code 11 = .ok (.iload_n 1, 1) := by decide +kernel
theorem d_cpI2_12 : decode jdk_52_method_21_code 12 = .ok (.caload, 1) := by decide +kernel
theorem d_cpI2_13 : decode jdk_52_method_21_code 13 = .ok (.istore 6, 2) := by decide +kernel
theorem d_cpI2_15 : decode jdk_52_method_21_code 15 = .ok (.iload 6, 2) := by decide +kernel
theorem d_cpI2_17 : decode jdk_52_method_21_code 17 = .ok (.sipush 255, 3) := by decide +kernel
theorem d_cpI2_20 : decode jdk_52_method_21_code 20 = .ok (.if_icmp .le 6, 3) := by decide +kernel
theorem d_cpI2_26 : decode jdk_52_method_21_code 26 = .ok (.aload_n 2, 1) := by decide +kernel
theorem d_cpI2_27 : decode jdk_52_method_21_code 27 = .ok (.iload_n 3, 1) := by decide +kernel
theorem d_cpI2_28 : decode jdk_52_method_21_code 28 = .ok (.iload 6, 2) := by decide +kernel
theorem d_cpI2_30 : decode jdk_52_method_21_code 30 = .ok (.i2b, 1) := by decide +kernel
theorem d_cpI2_31 : decode jdk_52_method_21_code 31 = .ok (.bastore, 1) := by decide +kernel
theorem d_cpI2_32 : decode jdk_52_method_21_code 32 = .ok (.iinc 1 1, 3) := by decide +kernel
theorem d_cpI2_35 : decode jdk_52_method_21_code 35 = .ok (.iinc 3 1, 3) := by decide +kernel
theorem d_cpI2_38 : decode jdk_52_method_21_code 38 = .ok (.iinc 5 1, 3) := by decide +kernel
theorem d_cpI2_41 : decode jdk_52_method_21_code 41 = .ok (.goto (-38), 3) := by decide +kernel
theorem d_cpI2_44 : decode jdk_52_method_21_code 44 = .ok (.iload 4, 2) := by decide +kernel
theorem d_cpI2_46 : decode jdk_52_method_21_code 46 = .ok (.ireturn, 1) := by decide +kernel
theorem ef_cpI2 (m : MethodId) (a0 : Addr) (a2 : Addr) : entryFrame m #[(.ref a0), (.int (0 : Int32)), (.ref a2), (.int (0 : Int32)), (.int (2 : Int32))] 7 = mkF m 0 #[.val (.ref a0), .val (.int (0 : Int32)), .val (.ref a2), .val (.int (0 : Int32)), .val (.int (2 : Int32)), .unset, .unset] [] := by first | (simp [entryFrame, mkF, argsToLocals, Value.category]; done) | rfl
def Q_cpI2 (Z : State) (a0 : Addr) (a2 : Addr) (kc : ClassId) (c0 : Int32) (c1 : Int32) (kb : ClassId) (h0 : Heap) (n0 : Nat) (v : Option Value) (h : Heap) (L : List Loc) : Prop := v = some (.int (2 : Int32)) ∧ Fr n0 L ∧ Keep h0 h [a2] ∧ Exa Z h a2 "[B" ∧ Arv Z h a2 kb .byte (2 : Int32) [(.int (c0.toInt8.toInt32)), (.int (c1.toInt8.toInt32))] (.int (0 : Int32))
set_option maxRecDepth 65536 in
set_option maxHeartbeats 40000000 in
theorem rm_cpI2 (l : Launch) (Z : State) (aT : Array Value) (hw : ∀ d ∈ tables_1, d.before aT Z = true) (ws : List Jvm.Cond) (a0 : Addr) (a2 : Addr) (kc : ClassId) (c0 : Int32) (c1 : Int32) (kb : ClassId) (h0 : Heap) (n0 : Nat) (Z0 : n0 ≤ h0.size) (hp0 : Arv Z h0 a0 kc .char (2 : Int32) [(.int c0), (.int c1)] (.int (0 : Int32))) (hp1 : Exa Z h0 a2 "[B") (hp2 : Arv Z h0 a2 kb .byte (2 : Int32) [(.int (0 : Int32)), (.int (0 : Int32))] (.int (0 : Int32))) (hp3 : n0 ≤ a2) (hp4 : a0 ≠ a2) (hq0 : ¬ ((255 : Int32) < c0)) (hq1 : ¬ ((255 : Int32) < c1)) :
    MetFree l (⟨"java/lang/StringUTF16", "compress", "([CI[BII)I"⟩ : MethodName) (head1 (Jvm.Cond.code (⟨"java/lang/StringUTF16", "compress", "([CI[BII)I"⟩ : MethodName) jdk_52_method_21_code 7 (some .int) :: ws) ({ frames := 0, cells := 0, slots := 0, locals := 0 } : Room)) (fun a U => a = #[(.ref a0), (.int (0 : Int32)), (.ref a2), (.int (0 : Int32)), (.int (2 : Int32))] ∧ Z.Warmed39 U.vm ∧ U.heap = h0) (fun _ _ _ _ _ => True) (fun _ U o U' => ∃ v L, o = .returned v ∧ Q_cpI2 Z a0 a2 kc c0 c1 kb h0 n0 v U'.heap L ∧ FrameEnd U o U' L ({ frames := 0, cells := 0, slots := 0, locals := 0 } : Room).cells ({ frames := 0, cells := 0, slots := 0, locals := 0 } : Room).slots) := by
  refine MetFree.of_bodySF (plainFor_of_name pn0) hisR ?_
  intro p e s m args below meth c s₁ Bd hml0 hP hK
  obtain ⟨rfl, hZ, hh⟩ := hP
  have hx := Bd.exec
  have hby := Bd.bytes
  have hml : c.maxLocals = 7 := hml0
  have hown : s.vm.findClass "java/lang/StringUTF16" = some m.cls := findClass_of_methodNamed Bd.named
  have hnm := (name_of_methodNamed Bd.named Bd.method).1
  have hlk := Bd.notSynchronized
  have hrt := Bd.returns
  have X0 : Stand p l e ({ frames := 0, cells := 0, slots := 0, locals := 0 } : Room) s m #[(.ref a0), (.int (0 : Int32)), (.ref a2), (.int (0 : Int32)), (.int (2 : Int32))] below meth c s₁ [] 0 0 := Stand.of_body Bd
  have e0 : s₁.heap = h0 := by rw [← hh, Bd.state]; rfl
  have N0 := Fr.nil n0
  refine own_cast (P := own_End s (Q_cpI2 Z a0 a2 kc c0 c1 kb h0 n0) ({ frames := 0, cells := 0, slots := 0, locals := 0 } : Room).cells ({ frames := 0, cells := 0, slots := 0, locals := 0 } : Room).slots) (ef_cpI2 m a0 a2) ?_
  refine g_iconst X0 hx hby (0 : Int32) d_cpI2_0 (by decide) (rfl : 0 + 1 = 1) ?_
  refine g_istore X0 hx hby #[.val (.ref a0), .val (.int (0 : Int32)), .val (.ref a2), .val (.int (0 : Int32)), .val (.int (2 : Int32)), .val (.int (0 : Int32)), .unset] d_cpI2_1 rfl (rfl : 1 + 2 = 3) ?_
  refine g_iload X0 hx hby d_cpI2_3 rfl (rfl : 3 + 2 = 5) ?_
  refine g_iload X0 hx hby d_cpI2_5 rfl (rfl : 5 + 2 = 7) ?_
  refine g_icF X0 hx hby d_cpI2_7 (tlt (by decide : (0 : Int32) < (2 : Int32))).2.1 (rfl : 7 + 3 = 10) ?_
  refine g_aloadN X0 hx hby d_cpI2_10 rfl rfl (rfl : 10 + 1 = 11) ?_
  refine g_iloadN X0 hx hby d_cpI2_11 rfl (rfl : 11 + 1 = 12) ?_
  refine g_caload X0 hx hby hZ e0 (v := (.int c0)) hp0 ⟨by decide, by decide⟩ rfl d_cpI2_12 (rfl : 12 + 1 = 13) ?_
  refine g_istore X0 hx hby #[.val (.ref a0), .val (.int (0 : Int32)), .val (.ref a2), .val (.int (0 : Int32)), .val (.int (2 : Int32)), .val (.int (0 : Int32)), .val (.int c0)] d_cpI2_13 rfl (rfl : 13 + 2 = 15) ?_
  refine g_iload X0 hx hby d_cpI2_15 rfl (rfl : 15 + 2 = 17) ?_
  refine g_sipush X0 hx hby (255 : Int32) d_cpI2_17 (by decide) (rfl : 17 + 3 = 20) ?_
  refine g_icT X0 hx hby d_cpI2_20 (flt hq0).2.2.2 (by decide) (pc' := 26) (by decide) ?_
  refine g_aloadN X0 hx hby d_cpI2_26 rfl rfl (rfl : 26 + 1 = 27) ?_
  refine g_iloadN X0 hx hby d_cpI2_27 rfl (rfl : 27 + 1 = 28) ?_
  refine g_iload X0 hx hby d_cpI2_28 rfl (rfl : 28 + 2 = 30) ?_
  refine g_i2b X0 hx hby d_cpI2_30 (rfl : 30 + 1 = 31) ?_
  obtain ⟨T30, h30, X30, e30, W30, V30, st30⟩ := a_bastore X0 hx hby hZ e0 (ls := #[.val (.ref a0), .val (.int (0 : Int32)), .val (.ref a2), .val (.int (0 : Int32)), .val (.int (2 : Int32)), .val (.int (0 : Int32)), .val (.int c0)]) (st := []) (j := (0 : Int32)) (c0.toInt8.toInt32) 0 hp2 ⟨by decide, by decide⟩ (by decide) (Nat.le_of_ble_eq_true rfl) d_cpI2_31
  have Z30 : n0 ≤ h30.size := Nat.le_trans Z0 (Keep.of_wr W30).1
  have N30 := Fr.snoc X30 N0 hp3
  have K30 : Keep h0 h30 [a2] := (Keep.refl h0 [a2]).wr W30 (Or.inl (List.mem_of_getElem? (i := 0) rfl))
  have V30' : Arv Z h30 a2 kb .byte (2 : Int32) [(.int (c0.toInt8.toInt32)), (.int (0 : Int32))] (.int (0 : Int32)) := by have q := V30; rw [own_nb] at q; exact q
  refine own_go st30 ?_
  show own_Got p e below _ T30 (mkF m 32 #[.val (.ref a0), .val (.int (0 : Int32)), .val (.ref a2), .val (.int (0 : Int32)), .val (.int (2 : Int32)), .val (.int (0 : Int32)), .val (.int c0)] [])
  refine g_iinc X30 hx hby #[.val (.ref a0), .val (.int ((0 : Int32) + (1 : Int32))), .val (.ref a2), .val (.int (0 : Int32)), .val (.int (2 : Int32)), .val (.int (0 : Int32)), .val (.int c0)] d_cpI2_32 rfl rfl (rfl : 32 + 3 = 35) ?_
  rw [(by decide : ((0 : Int32) + (1 : Int32)) = (1 : Int32))]
  refine g_iinc X30 hx hby #[.val (.ref a0), .val (.int (1 : Int32)), .val (.ref a2), .val (.int ((0 : Int32) + (1 : Int32))), .val (.int (2 : Int32)), .val (.int (0 : Int32)), .val (.int c0)] d_cpI2_35 rfl rfl (rfl : 35 + 3 = 38) ?_
  rw [(by decide : ((0 : Int32) + (1 : Int32)) = (1 : Int32))]
  refine g_iinc X30 hx hby #[.val (.ref a0), .val (.int (1 : Int32)), .val (.ref a2), .val (.int (1 : Int32)), .val (.int (2 : Int32)), .val (.int ((0 : Int32) + (1 : Int32))), .val (.int c0)] d_cpI2_38 rfl rfl (rfl : 38 + 3 = 41) ?_
  rw [(by decide : ((0 : Int32) + (1 : Int32)) = (1 : Int32))]
  refine g_goto X30 hx hby d_cpI2_41 (by decide) (pc' := 3) (by decide) ?_
  refine g_iload X30 hx hby d_cpI2_3 rfl (rfl : 3 + 2 = 5) ?_
  refine g_iload X30 hx hby d_cpI2_5 rfl (rfl : 5 + 2 = 7) ?_
  refine g_icF X30 hx hby d_cpI2_7 (tlt (by decide : (1 : Int32) < (2 : Int32))).2.1 (rfl : 7 + 3 = 10) ?_
  refine g_aloadN X30 hx hby d_cpI2_10 rfl rfl (rfl : 10 + 1 = 11) ?_
  refine g_iloadN X30 hx hby d_cpI2_11 rfl (rfl : 11 + 1 = 12) ?_
  have f31 : Arv Z h30 a0 kc .char (2 : Int32) [(.int c0), (.int c1)] (.int (0 : Int32)) := (Arv.other hp0 W30 hp4)
  refine g_caload X30 hx hby hZ e30 (v := (.int c1)) f31 ⟨by decide, by decide⟩ rfl d_cpI2_12 (rfl : 12 + 1 = 13) ?_
  refine g_istore X30 hx hby #[.val (.ref a0), .val (.int (1 : Int32)), .val (.ref a2), .val (.int (1 : Int32)), .val (.int (2 : Int32)), .val (.int (1 : Int32)), .val (.int c1)] d_cpI2_13 rfl (rfl : 13 + 2 = 15) ?_
  refine g_iload X30 hx hby d_cpI2_15 rfl (rfl : 15 + 2 = 17) ?_
  refine g_sipush X30 hx hby (255 : Int32) d_cpI2_17 (by decide) (rfl : 17 + 3 = 20) ?_
  refine g_icT X30 hx hby d_cpI2_20 (flt hq1).2.2.2 (by decide) (pc' := 26) (by decide) ?_
  refine g_aloadN X30 hx hby d_cpI2_26 rfl rfl (rfl : 26 + 1 = 27) ?_
  refine g_iloadN X30 hx hby d_cpI2_27 rfl (rfl : 27 + 1 = 28) ?_
  refine g_iload X30 hx hby d_cpI2_28 rfl (rfl : 28 + 2 = 30) ?_
  refine g_i2b X30 hx hby d_cpI2_30 (rfl : 30 + 1 = 31) ?_
  obtain ⟨T32, h32, X32, e32, W32, V32, st32⟩ := a_bastore X30 hx hby hZ e30 (ls := #[.val (.ref a0), .val (.int (1 : Int32)), .val (.ref a2), .val (.int (1 : Int32)), .val (.int (2 : Int32)), .val (.int (1 : Int32)), .val (.int c1)]) (st := []) (j := (1 : Int32)) (c1.toInt8.toInt32) 1 V30' ⟨by decide, by decide⟩ (by decide) (Nat.le_of_ble_eq_true rfl) d_cpI2_31
  have Z32 : n0 ≤ h32.size := Nat.le_trans Z30 (Keep.of_wr W32).1
  have N32 := Fr.snoc X32 N30 hp3
  have K32 : Keep h0 h32 [a2] := K30.wr W32 (Or.inl (List.mem_of_getElem? (i := 0) rfl))
  have V32' : Arv Z h32 a2 kb .byte (2 : Int32) [(.int (c0.toInt8.toInt32)), (.int (c1.toInt8.toInt32))] (.int (0 : Int32)) := by have q := V32; rw [own_nb] at q; exact q
  refine own_go st32 ?_
  show own_Got p e below _ T32 (mkF m 32 #[.val (.ref a0), .val (.int (1 : Int32)), .val (.ref a2), .val (.int (1 : Int32)), .val (.int (2 : Int32)), .val (.int (1 : Int32)), .val (.int c1)] [])
  refine g_iinc X32 hx hby #[.val (.ref a0), .val (.int ((1 : Int32) + (1 : Int32))), .val (.ref a2), .val (.int (1 : Int32)), .val (.int (2 : Int32)), .val (.int (1 : Int32)), .val (.int c1)] d_cpI2_32 rfl rfl (rfl : 32 + 3 = 35) ?_
  rw [(by decide : ((1 : Int32) + (1 : Int32)) = (2 : Int32))]
  refine g_iinc X32 hx hby #[.val (.ref a0), .val (.int (2 : Int32)), .val (.ref a2), .val (.int ((1 : Int32) + (1 : Int32))), .val (.int (2 : Int32)), .val (.int (1 : Int32)), .val (.int c1)] d_cpI2_35 rfl rfl (rfl : 35 + 3 = 38) ?_
  rw [(by decide : ((1 : Int32) + (1 : Int32)) = (2 : Int32))]
  refine g_iinc X32 hx hby #[.val (.ref a0), .val (.int (2 : Int32)), .val (.ref a2), .val (.int (2 : Int32)), .val (.int (2 : Int32)), .val (.int ((1 : Int32) + (1 : Int32))), .val (.int c1)] d_cpI2_38 rfl rfl (rfl : 38 + 3 = 41) ?_
  rw [(by decide : ((1 : Int32) + (1 : Int32)) = (2 : Int32))]
  refine g_goto X32 hx hby d_cpI2_41 (by decide) (pc' := 3) (by decide) ?_
  refine g_iload X32 hx hby d_cpI2_3 rfl (rfl : 3 + 2 = 5) ?_
  refine g_iload X32 hx hby d_cpI2_5 rfl (rfl : 5 + 2 = 7) ?_
  refine g_icT X32 hx hby d_cpI2_7 (flt (by decide : ¬ ((2 : Int32) < (2 : Int32)))).2.1 (by decide) (pc' := 44) (by decide) ?_
  refine g_iload X32 hx hby d_cpI2_44 rfl (rfl : 44 + 2 = 46) ?_
  have f33 : Exa Z h32 a2 "[B" := (Exa.wr W32 (Exa.wr W30 hp1))
  refine own_retI X32 hx hby hlk hrt d_cpI2_46 (by decide) (by decide) ?_
  show Q_cpI2 Z a0 a2 kc c0 c1 kb h0 n0 _ T32.heap _
  rw [e32]
  exact ⟨rfl, N32, K32, f33, V32'⟩
theorem d_cpB2_0 : decode jdk_52_method_16_code 0 = .ok (.iload_n 2, 1) := by decide +kernel
theorem d_cpB2_1 : decode jdk_52_method_16_code 1 = .ok (.newarray .byte, 2) := by decide +kernel
theorem d_cpB2_3 : decode jdk_52_method_16_code 3 = .ok (.astore_n 3, 1) := by decide +kernel
theorem d_cpB2_4 : decode jdk_52_method_16_code 4 = .ok (.aload_n 0, 1) := by decide +kernel
theorem d_cpB2_5 : decode jdk_52_method_16_code 5 = .ok (.iload_n 1, 1) := by decide +kernel
theorem d_cpB2_6 : decode jdk_52_method_16_code 6 = .ok (.aload_n 3, 1) := by decide +kernel
theorem d_cpB2_7 : decode jdk_52_method_16_code 7 = .ok (.iconst 0, 1) := by decide +kernel
theorem d_cpB2_8 : decode jdk_52_method_16_code 8 = .ok (.iload_n 2, 1) := by decide +kernel
theorem d_cpB2_9 : decode jdk_52_method_16_code 9 = .ok (.invokestatic 115, 3) := by decide +kernel
theorem d_cpB2_12 : decode jdk_52_method_16_code 12 = .ok (.istore 4, 2) := by decide +kernel
theorem d_cpB2_14 : decode jdk_52_method_16_code 14 = .ok (.iload 4, 2) := by decide +kernel
theorem d_cpB2_16 : decode jdk_52_method_16_code 16 = .ok (.iload_n 2, 1) := by decide +kernel
theorem d_cpB2_17 : decode jdk_52_method_16_code 17 = .ok (.if_icmp .eq 40, 3) := by decide +kernel
theorem d_cpB2_57 : decode jdk_52_method_16_code 57 = .ok (.aload_n 3, 1) := by decide +kernel
theorem d_cpB2_58 : decode jdk_52_method_16_code 58 = .ok (.areturn, 1) := by decide +kernel
theorem ef_cpB2 (m : MethodId) (a0 : Addr) : entryFrame m #[(.ref a0), (.int (0 : Int32)), (.int (2 : Int32))] 6 = mkF m 0 #[.val (.ref a0), .val (.int (0 : Int32)), .val (.int (2 : Int32)), .unset, .unset, .unset] [] := by first | (simp [entryFrame, mkF, argsToLocals, Value.category]; done) | rfl
def Q_cpB2 (Z : State) (a0 : Addr) (kc : ClassId) (c0 : Int32) (c1 : Int32) (h0 : Heap) (n0 : Nat) (v : Option Value) (h : Heap) (L : List Loc) : Prop := ∃ (ob : Addr), ∃ (kb : ClassId), v = some (.ref ob) ∧ Fr n0 L ∧ Keep h0 h [] ∧ h0.size ≤ ob ∧ Exa Z h ob "[B" ∧ Arv Z h ob kb .byte (2 : Int32) [(.int (c0.toInt8.toInt32)), (.int (c1.toInt8.toInt32))] (.int (0 : Int32))
set_option maxRecDepth 65536 in
set_option maxHeartbeats 40000000 in
theorem rm_cpB2 (l : Launch) (Z : State) (aT : Array Value) (hw : ∀ d ∈ tables_1, d.before aT Z = true) (ws : List Jvm.Cond) (a0 : Addr) (kc : ClassId) (c0 : Int32) (c1 : Int32) (h0 : Heap) (n0 : Nat) (Z0 : n0 ≤ h0.size) (hp0 : Arv Z h0 a0 kc .char (2 : Int32) [(.int c0), (.int c1)] (.int (0 : Int32))) (hq0 : ¬ ((255 : Int32) < c0)) (hq1 : ¬ ((255 : Int32) < c1)) :
    MetFree l (⟨"java/lang/StringUTF16", "compress", "([CII)[B"⟩ : MethodName) (head1 (Jvm.Cond.code (⟨"java/lang/StringUTF16", "compress", "([CII)[B"⟩ : MethodName) jdk_52_method_16_code 6 (some (.array .byte)) :: ws) ({ frames := 1, cells := 1, slots := 2, locals := 18 } : Room)) (fun a U => a = #[(.ref a0), (.int (0 : Int32)), (.int (2 : Int32))] ∧ Z.Warmed39 U.vm ∧ U.heap = h0) (fun _ _ _ _ _ => True) (fun _ U o U' => ∃ v L, o = .returned v ∧ Q_cpB2 Z a0 kc c0 c1 h0 n0 v U'.heap L ∧ FrameEnd U o U' L ({ frames := 1, cells := 1, slots := 2, locals := 18 } : Room).cells ({ frames := 1, cells := 1, slots := 2, locals := 18 } : Room).slots) := by
  refine MetFree.of_bodySF (plainFor_of_name pn0) hisR ?_
  intro p e s m args below meth c s₁ Bd hml0 hP hK
  obtain ⟨rfl, hZ, hh⟩ := hP
  have hx := Bd.exec
  have hby := Bd.bytes
  have hml : c.maxLocals = 6 := hml0
  have hown : s.vm.findClass "java/lang/StringUTF16" = some m.cls := findClass_of_methodNamed Bd.named
  have hnm := (name_of_methodNamed Bd.named Bd.method).1
  have hlk := Bd.notSynchronized
  have hrt := Bd.returns
  have X0 : Stand p l e ({ frames := 1, cells := 1, slots := 2, locals := 18 } : Room) s m #[(.ref a0), (.int (0 : Int32)), (.int (2 : Int32))] below meth c s₁ [] 0 0 := Stand.of_body Bd
  have e0 : s₁.heap = h0 := by rw [← hh, Bd.state]; rfl
  have N0 := Fr.nil n0
  refine own_cast (P := own_End s (Q_cpB2 Z a0 kc c0 c1 h0 n0) ({ frames := 1, cells := 1, slots := 2, locals := 18 } : Room).cells ({ frames := 1, cells := 1, slots := 2, locals := 18 } : Room).slots) (ef_cpB2 m a0) ?_
  refine g_iloadN X0 hx hby d_cpB2_0 rfl (rfl : 0 + 1 = 1) ?_
  obtain ⟨T34, h34, k34, X34, e34, E34, A34, B34, st34⟩ := newPE X0 hx hZ (hw _ (List.mem_of_getElem? (i := 22) rfl)) e0 (g := (mkF m 1 #[.val (.ref a0), .val (.int (0 : Int32)), .val (.int (2 : Int32)), .unset, .unset, .unset] [(.int (2 : Int32))])) rfl (hb hby d_cpB2_1) rfl (by decide) (cap := 2) (by decide) (by decide) (by decide) (by decide) (ad := "[B") (by decide +kernel)
  obtain ⟨b34, g34⟩ : ∃ z, z = h0.size := ⟨_, rfl⟩
  rw [← g34] at A34 B34 st34
  have ne35 : a0 ≠ b34 := Nat.ne_of_lt (Nat.lt_of_lt_of_le (hp0).lt (Nat.le_of_eq g34.symm))
  have Z34 : n0 ≤ h34.size := Nat.le_trans Z0 E34.1
  have K34 : Keep h0 h34 [] := (Keep.refl h0 []).ext E34
  have ge34 : n0 ≤ b34 := Nat.le_trans Z0 (Nat.le_of_eq g34.symm)
  have sz34 : h0.size ≤ b34 := Nat.le_trans (Keep.refl h0 []).1 (Nat.le_of_eq g34.symm)
  have V34 : Arv Z h34 b34 k34 .byte (2 : Int32) [(.int (0 : Int32)), (.int (0 : Int32))] (.int (0 : Int32)) := (Arv.new A34 (by decide)).pad (pad_rep [] _ 2)
  refine own_go st34 ?_
  show own_Got p e below _ T34 (mkF m 3 #[.val (.ref a0), .val (.int (0 : Int32)), .val (.int (2 : Int32)), .unset, .unset, .unset] [(.ref b34)])
  refine g_astoreN X34 hx hby #[.val (.ref a0), .val (.int (0 : Int32)), .val (.int (2 : Int32)), .val (.ref b34), .unset, .unset] d_cpB2_3 rfl rfl (rfl : 3 + 1 = 4) ?_
  refine g_aloadN X34 hx hby d_cpB2_4 rfl rfl (rfl : 4 + 1 = 5) ?_
  refine g_iloadN X34 hx hby d_cpB2_5 rfl (rfl : 5 + 1 = 6) ?_
  refine g_aloadN X34 hx hby d_cpB2_6 rfl rfl (rfl : 6 + 1 = 7) ?_
  refine g_iconst X34 hx hby (0 : Int32) d_cpB2_7 (by decide) (rfl : 7 + 1 = 8) ?_
  refine g_iloadN X34 hx hby d_cpB2_8 rfl (rfl : 8 + 1 = 9) ?_
  have f37 : Arv Z h34 a0 kc .char (2 : Int32) [(.int c0), (.int c1)] (.int (0 : Int32)) := (hp0.ext E34)
  obtain ⟨_, _, ⟨T36, L36, k36, n36⟩, -, X36, ⟨Lc36, hQ36, l36, y36, z36⟩, st36⟩ := Jvm.LawKit.callS X34 hx (y := (⟨"java/lang/StringUTF16", "compress", "([CI[BII)I"⟩ : MethodName)) hown (mvT hZ (hw _ (List.mem_of_getElem? (i := 69) rfl))) (mvT hZ (hw _ (List.mem_of_getElem? (i := 70) rfl))) (mvT hZ (hw _ (List.mem_of_getElem? (i := 67) rfl))) (mvT hZ (hw _ (List.mem_of_getElem? (i := 71) rfl))) (by decide) (backOf (W := 0) (rm_cpI2 l Z aT hw [] a0 b34 kc c0 c1 k34 h34 n0 Z34 f37 B34 V34 ge34 ne35 hq0 hq1) hZ (hw _ (List.mem_of_getElem? (i := 71) rfl)) (hw _ (List.mem_of_getElem? (i := 67) rfl)) (by decide) (by decide)) (g := (mkF m 9 #[.val (.ref a0), .val (.int (0 : Int32)), .val (.int (2 : Int32)), .val (.ref b34), .unset, .unset] [(.int (2 : Int32)), (.int (0 : Int32)), (.ref b34), (.int (0 : Int32)), (.ref a0)])) rfl (by rw [hml]; rfl) (argsL := [(.ref a0), (.int (0 : Int32)), (.ref b34), (.int (0 : Int32)), (.int (2 : Int32))]) (rest := []) (lenOf pd0 rfl) rfl (by show 2 * 0 + _ ≤ _; exact Nat.le_of_eq rfl) (hb hby d_cpB2_9) (fun _ _ => ⟨rfl, e34, (by decide : 1 + 0 ≤ _), (by decide : 2 + 0 ≤ _)⟩)
  dsimp only [Pt.U, Pt.locs, Pt.cells, Pt.slots] at X36 l36 y36 z36 st36 hQ36
  subst l36 y36 z36
  obtain ⟨rfl, N36q, K36, q36_0, q36_1⟩ := hQ36
  have N36 := Fr.app N0 N36q
  have Z36 : n0 ≤ T36.heap.size := Nat.le_trans Z34 K36.1
  have KC36 : Keep h0 T36.heap [] := K34.trans K36 (allS (Or.inr sz34) all0)
  refine own_go st36 ?_
  show own_Got p e below _ T36 (mkF m 12 #[.val (.ref a0), .val (.int (0 : Int32)), .val (.int (2 : Int32)), .val (.ref b34), .unset, .unset] [(.int (2 : Int32))])
  refine g_istore X36 hx hby #[.val (.ref a0), .val (.int (0 : Int32)), .val (.int (2 : Int32)), .val (.ref b34), .val (.int (2 : Int32)), .unset] d_cpB2_12 rfl (rfl : 12 + 2 = 14) ?_
  refine g_iload X36 hx hby d_cpB2_14 rfl (rfl : 14 + 2 = 16) ?_
  refine g_iloadN X36 hx hby d_cpB2_16 rfl (rfl : 16 + 1 = 17) ?_
  refine g_icT X36 hx hby d_cpB2_17 (teq (by decide : (2 : Int32) = (2 : Int32))).1 (by decide) (pc' := 57) (by decide) ?_
  refine g_aloadN X36 hx hby d_cpB2_57 rfl rfl (rfl : 57 + 1 = 58) ?_
  refine own_retR X36 hx hby hlk hrt rfl d_cpB2_58 (by decide) (by decide) rfl ?_
  show Q_cpB2 Z a0 kc c0 c1 h0 n0 _ T36.heap _
  exact ⟨b34, k34, rfl, N36, KC36, sz34, q36_0, q36_1⟩
theorem d_cfl2_0 : decode jdk_52_method_15_code 0 = .ok (.iload_n 1, 1) := by decide +kernel
theorem d_cfl2_1 : decode jdk_52_method_15_code 1 = .ok (.aload_n 0, 1) := by decide +kernel
theorem d_cfl2_2 : decode jdk_52_method_15_code 2 = .ok (.arraylength, 1) := by decide +kernel
theorem d_cfl2_3 : decode jdk_52_method_15_code 3 = .ok (.isub, 1) := by decide +kernel
theorem d_cfl2_4 : decode jdk_52_method_15_code 4 = .ok (.bipush 31, 2) := by decide +kernel
theorem d_cfl2_6 : decode jdk_52_method_15_code 6 = .ok (.iushr, 1) := by decide +kernel
theorem d_cfl2_7 : decode jdk_52_method_15_code 7 = .ok (.i2b, 1) := by decide +kernel
theorem d_cfl2_8 : decode jdk_52_method_15_code 8 = .ok (.ireturn, 1) := by decide +kernel
theorem ef_cfl2 (m : MethodId) (a0 : Addr) : entryFrame m #[(.ref a0), (.int (2 : Int32))] 2 = mkF m 0 #[.val (.ref a0), .val (.int (2 : Int32))] [] := by first | (simp [entryFrame, mkF, argsToLocals, Value.category]; done) | rfl
def Q_cfl2 (Z : State) (a0 : Addr) (kb : ClassId) (vs : List Value) (h0 : Heap) (n0 : Nat) (v : Option Value) (h : Heap) (L : List Loc) : Prop := v = some (.int (0 : Int32)) ∧ Fr n0 L ∧ h = h0
set_option maxRecDepth 65536 in
set_option maxHeartbeats 40000000 in
theorem rm_cfl2 (l : Launch) (Z : State) (aT : Array Value) (hw : ∀ d ∈ tables_1, d.before aT Z = true) (ws : List Jvm.Cond) (a0 : Addr) (kb : ClassId) (vs : List Value) (h0 : Heap) (n0 : Nat) (Z0 : n0 ≤ h0.size) (hp0 : Arv Z h0 a0 kb .byte (2 : Int32) vs (.int (0 : Int32))) :
    MetFree l (⟨"java/lang/StringUTF16", "coderFromArrayLen", "([BI)B"⟩ : MethodName) (head1 (Jvm.Cond.code (⟨"java/lang/StringUTF16", "coderFromArrayLen", "([BI)B"⟩ : MethodName) jdk_52_method_15_code 2 (some .byte) :: ws) ({ frames := 0, cells := 0, slots := 0, locals := 0 } : Room)) (fun a U => a = #[(.ref a0), (.int (2 : Int32))] ∧ Z.Warmed39 U.vm ∧ U.heap = h0) (fun _ _ _ _ _ => True) (fun _ U o U' => ∃ v L, o = .returned v ∧ Q_cfl2 Z a0 kb vs h0 n0 v U'.heap L ∧ FrameEnd U o U' L ({ frames := 0, cells := 0, slots := 0, locals := 0 } : Room).cells ({ frames := 0, cells := 0, slots := 0, locals := 0 } : Room).slots) := by
  refine MetFree.of_bodySF (plainFor_of_name pn0) hisR ?_
  intro p e s m args below meth c s₁ Bd hml0 hP hK
  obtain ⟨rfl, hZ, hh⟩ := hP
  have hx := Bd.exec
  have hby := Bd.bytes
  have hml : c.maxLocals = 2 := hml0
  have hown : s.vm.findClass "java/lang/StringUTF16" = some m.cls := findClass_of_methodNamed Bd.named
  have hnm := (name_of_methodNamed Bd.named Bd.method).1
  have hlk := Bd.notSynchronized
  have hrt := Bd.returns
  have X0 : Stand p l e ({ frames := 0, cells := 0, slots := 0, locals := 0 } : Room) s m #[(.ref a0), (.int (2 : Int32))] below meth c s₁ [] 0 0 := Stand.of_body Bd
  have e0 : s₁.heap = h0 := by rw [← hh, Bd.state]; rfl
  have N0 := Fr.nil n0
  refine own_cast (P := own_End s (Q_cfl2 Z a0 kb vs h0 n0) ({ frames := 0, cells := 0, slots := 0, locals := 0 } : Room).cells ({ frames := 0, cells := 0, slots := 0, locals := 0 } : Room).slots) (ef_cfl2 m a0) ?_
  refine g_iloadN X0 hx hby d_cfl2_0 rfl (rfl : 0 + 1 = 1) ?_
  refine g_aloadN X0 hx hby d_cfl2_1 rfl rfl (rfl : 1 + 1 = 2) ?_
  refine g_alen X0 hx hby hZ e0 hp0 d_cfl2_2 (rfl : 2 + 1 = 3) ?_
  refine g_isub X0 hx hby d_cfl2_3 (rfl : 3 + 1 = 4) ?_
  rw [(by decide : ((2 : Int32) - (2 : Int32)) = (0 : Int32))]
  refine g_bipush X0 hx hby (31 : Int32) d_cfl2_4 (by decide) (rfl : 4 + 2 = 6) ?_
  refine g_iushr X0 hx hby d_cfl2_6 (rfl : 6 + 1 = 7) ?_
  rw [(by decide : (((0 : Int32).toUInt32 >>> ((31 : Int32) &&& 31).toUInt32).toInt32) = (0 : Int32))]
  refine g_i2b X0 hx hby d_cfl2_7 (rfl : 7 + 1 = 8) ?_
  rw [(by decide : ((0 : Int32).toInt8.toInt32) = (0 : Int32))]
  refine own_retN X0 hx hby hlk (t := .byte) hrt (by simp) d_cfl2_8 (by decide) (by decide) ?_
  show Q_cfl2 Z a0 kb vs h0 n0 _ s₁.heap _
  exact ⟨rfl, N0, e0⟩
theorem d_si2_2_0 : decode jdk_42_method_149_code 0 = .ok (.aload_n 0, 1) := by decide +kernel
theorem d_si2_2_1 : decode jdk_42_method_149_code 1 = .ok (.invokespecial 1, 3) := by decide +kernel
theorem d_si2_2_4 : decode jdk_42_method_149_code 4 = .ok (.iload_n 3, 1) := by decide +kernel
theorem d_si2_2_5 : decode jdk_42_method_149_code 5 = .ok (.ifCond .ne 22, 3) := by decide +kernel
theorem d_si2_2_27 : decode jdk_42_method_149_code 27 = .ok (.getstatic 38, 3) := by decide +kernel
theorem d_si2_2_30 : decode jdk_42_method_149_code 30 = .ok (.ifCond .eq 28, 3) := by decide +kernel
theorem d_si2_2_33 : decode jdk_42_method_149_code 33 = .ok (.aload_n 1, 1) := by decide +kernel
theorem d_si2_2_34 : decode jdk_42_method_149_code 34 = .ok (.iload_n 2, 1) := by decide +kernel
theorem d_si2_2_35 : decode jdk_42_method_149_code 35 = .ok (.iload_n 3, 1) := by decide +kernel
theorem d_si2_2_36 : decode jdk_42_method_149_code 36 = .ok (.invokestatic 177, 3) := by decide +kernel
theorem d_si2_2_39 : decode jdk_42_method_149_code 39 = .ok (.astore 5, 2) := by decide +kernel
theorem d_si2_2_41 : decode jdk_42_method_149_code 41 = .ok (.aload_n 0, 1) := by decide +kernel
theorem d_si2_2_42 : decode jdk_42_method_149_code 42 = .ok (.aload 5, 2) := by decide +kernel
theorem d_si2_2_44 : decode jdk_42_method_149_code 44 = .ok (.iload_n 3, 1) := by decide +kernel
theorem d_si2_2_45 : decode jdk_42_method_149_code 45 = .ok (.invokestatic 47, 3) := by decide +kernel
theorem d_si2_2_48 : decode jdk_42_method_149_code 48 = .ok (.putfield 15, 3) := by decide +kernel
theorem d_si2_2_51 : decode jdk_42_method_149_code 51 = .ok (.aload_n 0, 1) := by decide +kernel
theorem d_si2_2_52 : decode jdk_42_method_149_code 52 = .ok (.aload 5, 2) := by decide +kernel
theorem d_si2_2_54 : decode jdk_42_method_149_code 54 = .ok (.putfield 9, 3) := by decide +kernel
theorem d_si2_2_57 : decode jdk_42_method_149_code 57 = .ok (.return_, 1) := by decide +kernel
theorem ef_si2_2 (m : MethodId) (a0 : Addr) (a1 : Addr) : entryFrame m #[(.ref a0), (.ref a1), (.int (0 : Int32)), (.int (2 : Int32)), .null] 6 = mkF m 0 #[.val (.ref a0), .val (.ref a1), .val (.int (0 : Int32)), .val (.int (2 : Int32)), .val .null, .unset] [] := by first | (simp [entryFrame, mkF, argsToLocals, Value.category]; done) | rfl
def Q_si2_2 (Z : State) (a0 : Addr) (a1 : Addr) (kc : ClassId) (c0 : Int32) (c1 : Int32) (g1 : Int32) (h0 : Heap) (n0 : Nat) (v : Option Value) (h : Heap) (L : List Loc) : Prop := ∃ (ob : Addr), ∃ (kb : ClassId), v = none ∧ Fr n0 L ∧ Keep h0 h [a0] ∧ Exa Z h a0 "java/lang/String" ∧ Fld Z h a0 "java/lang/String" "coder" "B" (.int (0 : Int32)) ∧ Fld Z h a0 "java/lang/String" "value" "[B" (.ref ob) ∧ h0.size ≤ ob ∧ Exa Z h ob "[B" ∧ Arv Z h ob kb .byte (2 : Int32) [(.int (c0.toInt8.toInt32)), (.int (c1.toInt8.toInt32))] (.int (0 : Int32))
set_option maxRecDepth 65536 in
set_option maxHeartbeats 40000000 in
theorem rm_si2_2 (l : Launch) (Z : State) (aT : Array Value) (hw : ∀ d ∈ tables_1, d.before aT Z = true) (ws : List Jvm.Cond) (a0 : Addr) (a1 : Addr) (kc : ClassId) (c0 : Int32) (c1 : Int32) (g1 : Int32) (h0 : Heap) (n0 : Nat) (Z0 : n0 ≤ h0.size) (hp0 : Exa Z h0 a0 "java/lang/String") (hp1 : Fld Z h0 a0 "java/lang/String" "value" "[B" .null) (hp2 : Fld Z h0 a0 "java/lang/String" "coder" "B" (.int (0 : Int32))) (hp3 : n0 ≤ a0) (hp4 : Arv Z h0 a1 kc .char (2 : Int32) [(.int c0), (.int c1)] (.int (0 : Int32))) (hp5 : Sta Z h0 "java/lang/String" "COMPACT_STRINGS" "Z" (.int g1)) (hq0 : ¬ ((255 : Int32) < c0)) (hq1 : ¬ ((255 : Int32) < c1)) (hg1 : ¬ (g1 = (0 : Int32))) :
    MetFree l (⟨"java/lang/String", "<init>", "([CIILjava/lang/Void;)V"⟩ : MethodName) (head1 (Jvm.Cond.code (⟨"java/lang/String", "<init>", "([CIILjava/lang/Void;)V"⟩ : MethodName) jdk_42_method_149_code 6 none :: ws) ({ frames := 2, cells := 1, slots := 2, locals := 35 } : Room)) (fun a U => a = #[(.ref a0), (.ref a1), (.int (0 : Int32)), (.int (2 : Int32)), .null] ∧ Z.Warmed39 U.vm ∧ U.heap = h0) (fun _ _ _ _ _ => True) (fun _ U o U' => ∃ v L, o = .returned v ∧ Q_si2_2 Z a0 a1 kc c0 c1 g1 h0 n0 v U'.heap L ∧ FrameEnd U o U' L ({ frames := 2, cells := 1, slots := 2, locals := 35 } : Room).cells ({ frames := 2, cells := 1, slots := 2, locals := 35 } : Room).slots) := by
  refine MetFree.of_bodySF (plainFor_of_name pn1) hisR ?_
  intro p e s m args below meth c s₁ Bd hml0 hP hK
  obtain ⟨rfl, hZ, hh⟩ := hP
  have hx := Bd.exec
  have hby := Bd.bytes
  have hml : c.maxLocals = 6 := hml0
  have hown : s.vm.findClass "java/lang/String" = some m.cls := findClass_of_methodNamed Bd.named
  have hnm := (name_of_methodNamed Bd.named Bd.method).1
  have hlk := Bd.notSynchronized
  have hrt := Bd.returns
  have X0 : Stand p l e ({ frames := 2, cells := 1, slots := 2, locals := 35 } : Room) s m #[(.ref a0), (.ref a1), (.int (0 : Int32)), (.int (2 : Int32)), .null] below meth c s₁ [] 0 0 := Stand.of_body Bd
  have e0 : s₁.heap = h0 := by rw [← hh, Bd.state]; rfl
  have N0 := Fr.nil n0
  refine own_cast (P := own_End s (Q_si2_2 Z a0 a1 kc c0 c1 g1 h0 n0) ({ frames := 2, cells := 1, slots := 2, locals := 35 } : Room).cells ({ frames := 2, cells := 1, slots := 2, locals := 35 } : Room).slots) (ef_si2_2 m a0 a1) ?_
  refine g_aloadN X0 hx hby d_si2_2_0 rfl rfl (rfl : 0 + 1 = 1) ?_
  obtain ⟨T38, X38, e38, st38⟩ := initO X0 hx hZ hown (hw _ (List.mem_of_getElem? (i := 18) rfl)) (hw _ (List.mem_of_getElem? (i := 19) rfl)) (hw _ (List.mem_of_getElem? (i := 20) rfl)) e0 (g := (mkF m 1 #[.val (.ref a0), .val (.ref a1), .val (.int (0 : Int32)), .val (.int (2 : Int32)), .val .null, .unset] [(.ref a0)])) rfl (by rw [hml]; rfl) rfl (hb hby d_si2_2_1) (by decide) (W := 0) (by show 2 * 0 + _ ≤ _; exact Nat.le_of_eq rfl) (by decide)
  refine own_go st38 ?_
  show own_Got p e below _ T38 (mkF m 4 #[.val (.ref a0), .val (.ref a1), .val (.int (0 : Int32)), .val (.int (2 : Int32)), .val .null, .unset] [])
  refine g_iloadN X38 hx hby d_si2_2_4 rfl (rfl : 4 + 1 = 5) ?_
  refine g_ifT X38 hx hby d_si2_2_5 ((if0 _ _).trans (feq (by decide : ¬ ((2 : Int32) = (0 : Int32)))).2) (by decide) (pc' := 27) (by decide) ?_
  obtain ⟨T39, X39, e39, st39⟩ := getS2 X38 hx hZ hown (host := "") (Or.inl (hw _ (List.mem_of_getElem? (i := 60) rfl))) Via.refl e38 hp5 (g := (mkF m 27 #[.val (.ref a0), .val (.ref a1), .val (.int (0 : Int32)), .val (.int (2 : Int32)), .val .null, .unset] [])) rfl (hb hby d_si2_2_27)
  refine own_go st39 ?_
  show own_Got p e below _ T39 (mkF m 30 #[.val (.ref a0), .val (.ref a1), .val (.int (0 : Int32)), .val (.int (2 : Int32)), .val .null, .unset] [(.int g1)])
  refine g_ifF X39 hx hby d_si2_2_30 ((if0 _ _).trans (feq hg1).1) (rfl : 30 + 3 = 33) ?_
  refine g_aloadN X39 hx hby d_si2_2_33 rfl rfl (rfl : 33 + 1 = 34) ?_
  refine g_iloadN X39 hx hby d_si2_2_34 rfl (rfl : 34 + 1 = 35) ?_
  refine g_iloadN X39 hx hby d_si2_2_35 rfl (rfl : 35 + 1 = 36) ?_
  obtain ⟨_, _, ⟨T40, L40, k40, n40⟩, -, X40, ⟨Lc40, hQ40, l40, y40, z40⟩, st40⟩ := Jvm.LawKit.callS X39 hx (y := (⟨"java/lang/StringUTF16", "compress", "([CII)[B"⟩ : MethodName)) hown (mvT hZ (hw _ (List.mem_of_getElem? (i := 65) rfl))) (mvT hZ (hw _ (List.mem_of_getElem? (i := 66) rfl))) (mvT hZ (hw _ (List.mem_of_getElem? (i := 67) rfl))) (mvT hZ (hw _ (List.mem_of_getElem? (i := 68) rfl))) (by decide) (backOf (W := 0) (rm_cpB2 l Z aT hw [] a1 kc c0 c1 h0 n0 Z0 hp4 hq0 hq1) hZ (hw _ (List.mem_of_getElem? (i := 68) rfl)) (hw _ (List.mem_of_getElem? (i := 67) rfl)) (by decide) (by decide)) (g := (mkF m 36 #[.val (.ref a0), .val (.ref a1), .val (.int (0 : Int32)), .val (.int (2 : Int32)), .val .null, .unset] [(.int (2 : Int32)), (.int (0 : Int32)), (.ref a1)])) rfl (by rw [hml]; rfl) (argsL := [(.ref a1), (.int (0 : Int32)), (.int (2 : Int32))]) (rest := []) (lenOf pd1 rfl) rfl (by show 2 * 0 + _ ≤ _; exact Nat.le_of_eq rfl) (hb hby d_si2_2_36) (fun _ _ => ⟨rfl, e39, (by decide : 0 + 1 ≤ _), (by decide : 0 + 2 ≤ _)⟩)
  dsimp only [Pt.U, Pt.locs, Pt.cells, Pt.slots] at X40 l40 y40 z40 st40 hQ40
  subst l40 y40 z40
  obtain ⟨ob_40, kb_40, rfl, N40q, K40, q40_0, q40_1, q40_2⟩ := hQ40
  have N40 := Fr.app N0 N40q
  have Z40 : n0 ≤ T40.heap.size := Nat.le_trans Z0 K40.1
  have KC40 : Keep h0 T40.heap [a0] := (Keep.refl h0 [a0]).trans K40 all0
  have ne41 : a0 ≠ ob_40 := Nat.ne_of_lt (Nat.lt_of_lt_of_le (hp0).lt q40_0)
  have ne42 : a1 ≠ ob_40 := Nat.ne_of_lt (Nat.lt_of_lt_of_le (hp4).lt q40_0)
  have ge43 : n0 ≤ ob_40 := Nat.le_trans Z0 q40_0
  have sz44 : h0.size ≤ ob_40 := Nat.le_trans (Keep.refl h0 [a0]).1 q40_0
  refine own_go st40 ?_
  show own_Got p e below _ T40 (mkF m 39 #[.val (.ref a0), .val (.ref a1), .val (.int (0 : Int32)), .val (.int (2 : Int32)), .val .null, .unset] [(.ref ob_40)])
  refine g_astore X40 hx hby #[.val (.ref a0), .val (.ref a1), .val (.int (0 : Int32)), .val (.int (2 : Int32)), .val .null, .val (.ref ob_40)] d_si2_2_39 rfl rfl (rfl : 39 + 2 = 41) ?_
  refine g_aloadN X40 hx hby d_si2_2_41 rfl rfl (rfl : 41 + 1 = 42) ?_
  refine g_aload X40 hx hby d_si2_2_42 rfl rfl (rfl : 42 + 2 = 44) ?_
  refine g_iloadN X40 hx hby d_si2_2_44 rfl (rfl : 44 + 1 = 45) ?_
  obtain ⟨_, _, ⟨T45, L45, k45, n45⟩, -, X45, ⟨Lc45, hQ45, l45, y45, z45⟩, st45⟩ := Jvm.LawKit.callS X40 hx (y := (⟨"java/lang/StringUTF16", "coderFromArrayLen", "([BI)B"⟩ : MethodName)) hown (mvT hZ (hw _ (List.mem_of_getElem? (i := 72) rfl))) (mvT hZ (hw _ (List.mem_of_getElem? (i := 73) rfl))) (mvT hZ (hw _ (List.mem_of_getElem? (i := 67) rfl))) (mvT hZ (hw _ (List.mem_of_getElem? (i := 74) rfl))) (by decide) (backOf (W := 1) (rm_cfl2 l Z aT hw [] ob_40 kb_40 [(.int (c0.toInt8.toInt32)), (.int (c1.toInt8.toInt32))] T40.heap n0 Z40 q40_2) hZ (hw _ (List.mem_of_getElem? (i := 74) rfl)) (hw _ (List.mem_of_getElem? (i := 67) rfl)) (by decide) (by decide)) (g := (mkF m 45 #[.val (.ref a0), .val (.ref a1), .val (.int (0 : Int32)), .val (.int (2 : Int32)), .val .null, .val (.ref ob_40)] [(.int (2 : Int32)), (.ref ob_40), (.ref a0)])) rfl (by rw [hml]; rfl) (argsL := [(.ref ob_40), (.int (2 : Int32))]) (rest := [(.ref a0)]) (lenOf pd2 rfl) rfl (by show 2 * 0 + _ ≤ _; exact Nat.le_of_eq rfl) (hb hby d_si2_2_45) (fun _ _ => ⟨rfl, rfl, (by decide : 1 + 0 ≤ _), (by decide : 2 + 0 ≤ _)⟩)
  dsimp only [Pt.U, Pt.locs, Pt.cells, Pt.slots] at X45 l45 y45 z45 st45 hQ45
  subst l45 y45 z45
  obtain ⟨rfl, N45q, eq45⟩ := hQ45
  have N45 := Fr.app N40 N45q
  refine own_go st45 ?_
  show own_Got p e below _ T45 (mkF m 48 #[.val (.ref a0), .val (.ref a1), .val (.int (0 : Int32)), .val (.int (2 : Int32)), .val .null, .val (.ref ob_40)] [(.int (0 : Int32)), (.ref a0)])
  have f46 : Fld Z T40.heap a0 "java/lang/String" "coder" "B" (.int (0 : Int32)) := (Fld.keep hp2 K40 nin0)
  have f47 : Exa Z T40.heap a0 "java/lang/String" := (Exa.keep hp0 K40)
  obtain ⟨T48, h48, X48, e48, W48, st48⟩ := putFN X45 hx hZ hown (hw _ (List.mem_of_getElem? (i := 28) rfl)) Via.refl eq45 f46 f47 (Or.inr ⟨(hw _ (List.mem_of_getElem? (i := 24) rfl)), rfl, hnm⟩) (hw _ (List.mem_of_getElem? (i := 8) rfl)) (ty := .byte) (v' := (.int (0 : Int32))) (by decide) rfl rfl (g := (mkF m 48 #[.val (.ref a0), .val (.ref a1), .val (.int (0 : Int32)), .val (.int (2 : Int32)), .val .null, .val (.ref ob_40)] [(.int (0 : Int32)), (.ref a0)])) rfl rfl (hb hby d_si2_2_48)
  have Z48 : n0 ≤ h48.size := Nat.le_trans Z40 (Keep.of_wr W48).1
  have N48 := Fr.snoc X48 N45 hp3
  have K48 : Keep h0 h48 [a0] := KC40.wr W48 (Or.inl (List.mem_of_getElem? (i := 0) rfl))
  have f48 : Fld Z h48 a0 "java/lang/String" "coder" "B" (.int (0 : Int32)) := Fld.same W48 f46
  refine own_go st48 ?_
  show own_Got p e below _ T48 (mkF m 51 #[.val (.ref a0), .val (.ref a1), .val (.int (0 : Int32)), .val (.int (2 : Int32)), .val .null, .val (.ref ob_40)] [])
  refine g_aloadN X48 hx hby d_si2_2_51 rfl rfl (rfl : 51 + 1 = 52) ?_
  refine g_aload X48 hx hby d_si2_2_52 rfl rfl (rfl : 52 + 2 = 54) ?_
  have f49 : Fld Z h48 a0 "java/lang/String" "value" "[B" .null := (Fld.other W48 (Fld.keep hp1 K40 nin0) (Or.inr (slot_ne (Or.inr (hw _ (List.mem_of_getElem? (i := 23) rfl))) (Or.inr (hw _ (List.mem_of_getElem? (i := 24) rfl))) (by decide) (t := (.array .byte)) (t' := .byte) (by decide) (by decide))))
  have f50 : Exa Z h48 a0 "java/lang/String" := (Exa.wr W48 f47)
  obtain ⟨T51, h51, X51, e51, W51, st51⟩ := putF X48 hx hZ hown (host := "") (Or.inl (hw _ (List.mem_of_getElem? (i := 27) rfl))) Via.refl e48 f49 f50 (Or.inr ⟨(hw _ (List.mem_of_getElem? (i := 23) rfl)), rfl, hnm⟩) (hw _ (List.mem_of_getElem? (i := 8) rfl)) (ty := (.array .byte)) (by decide) rfl rfl (g := (mkF m 54 #[.val (.ref a0), .val (.ref a1), .val (.int (0 : Int32)), .val (.int (2 : Int32)), .val .null, .val (.ref ob_40)] [(.ref ob_40), (.ref a0)])) rfl rfl (hb hby d_si2_2_54)
  have Z51 : n0 ≤ h51.size := Nat.le_trans Z48 (Keep.of_wr W51).1
  have N51 := Fr.snoc X51 N48 hp3
  have K51 : Keep h0 h51 [a0] := K48.wr W51 (Or.inl (List.mem_of_getElem? (i := 0) rfl))
  have f51 : Fld Z h51 a0 "java/lang/String" "value" "[B" (.ref ob_40) := Fld.same W51 f49
  refine own_go st51 ?_
  show own_Got p e below _ T51 (mkF m 57 #[.val (.ref a0), .val (.ref a1), .val (.int (0 : Int32)), .val (.int (2 : Int32)), .val .null, .val (.ref ob_40)] [])
  have f52 : Exa Z h51 a0 "java/lang/String" := (Exa.wr W51 f50)
  have f53 : Fld Z h51 a0 "java/lang/String" "coder" "B" (.int (0 : Int32)) := (Fld.other W51 f48 (Or.inr (slot_ne (Or.inr (hw _ (List.mem_of_getElem? (i := 24) rfl))) (Or.inr (hw _ (List.mem_of_getElem? (i := 23) rfl))) (by decide) (t := .byte) (t' := (.array .byte)) (by decide) (by decide))))
  have f54 : Exa Z h51 ob_40 "[B" := (Exa.wr W51 (Exa.wr W48 q40_1))
  have f55 : Arv Z h51 ob_40 kb_40 .byte (2 : Int32) [(.int (c0.toInt8.toInt32)), (.int (c1.toInt8.toInt32))] (.int (0 : Int32)) := (Arv.other (Arv.other q40_2 W48 (Ne.symm ne41)) W51 (Ne.symm ne41))
  refine own_retV X51 hx hby hlk hrt d_si2_2_57 (by decide) (by decide) ?_
  show Q_si2_2 Z a0 a1 kc c0 c1 g1 h0 n0 _ T51.heap _
  rw [e51]
  exact ⟨ob_40, kb_40, rfl, N51, K51, f52, f53, f51, sz44, f54, f55⟩
theorem d_si1_2_0 : decode jdk_42_method_3_code 0 = .ok (.aload_n 0, 1) := by decide +kernel
theorem d_si1_2_1 : decode jdk_42_method_3_code 1 = .ok (.aload_n 1, 1) := by decide +kernel
theorem d_si1_2_2 : decode jdk_42_method_3_code 2 = .ok (.iconst 0, 1) := by decide +kernel
theorem d_si1_2_3 : decode jdk_42_method_3_code 3 = .ok (.aload_n 1, 1) := by decide +kernel
theorem d_si1_2_4 : decode jdk_42_method_3_code 4 = .ok (.arraylength, 1) := by decide +kernel
theorem d_si1_2_5 : decode jdk_42_method_3_code 5 = .ok (.aconst_null, 1) := by decide +kernel
theorem d_si1_2_6 : decode jdk_42_method_3_code 6 = .ok (.invokespecial 27, 3) := by decide +kernel
theorem d_si1_2_9 : decode jdk_42_method_3_code 9 = .ok (.return_, 1) := by decide +kernel
theorem ef_si1_2 (m : MethodId) (a0 : Addr) (a1 : Addr) : entryFrame m #[(.ref a0), (.ref a1)] 2 = mkF m 0 #[.val (.ref a0), .val (.ref a1)] [] := by first | (simp [entryFrame, mkF, argsToLocals, Value.category]; done) | rfl
def Q_si1_2 (Z : State) (a0 : Addr) (a1 : Addr) (kc : ClassId) (c0 : Int32) (c1 : Int32) (g1 : Int32) (h0 : Heap) (n0 : Nat) (v : Option Value) (h : Heap) (L : List Loc) : Prop := ∃ (ob : Addr), ∃ (kb : ClassId), v = none ∧ Fr n0 L ∧ Keep h0 h [a0] ∧ Exa Z h a0 "java/lang/String" ∧ Fld Z h a0 "java/lang/String" "coder" "B" (.int (0 : Int32)) ∧ Fld Z h a0 "java/lang/String" "value" "[B" (.ref ob) ∧ h0.size ≤ ob ∧ Exa Z h ob "[B" ∧ Arv Z h ob kb .byte (2 : Int32) [(.int (c0.toInt8.toInt32)), (.int (c1.toInt8.toInt32))] (.int (0 : Int32))
set_option maxRecDepth 65536 in
set_option maxHeartbeats 40000000 in
theorem rm_si1_2 (l : Launch) (Z : State) (aT : Array Value) (hw : ∀ d ∈ tables_1, d.before aT Z = true) (ws : List Jvm.Cond) (a0 : Addr) (a1 : Addr) (kc : ClassId) (c0 : Int32) (c1 : Int32) (g1 : Int32) (h0 : Heap) (n0 : Nat) (Z0 : n0 ≤ h0.size) (hp0 : Exa Z h0 a0 "java/lang/String") (hp1 : Fld Z h0 a0 "java/lang/String" "value" "[B" .null) (hp2 : Fld Z h0 a0 "java/lang/String" "coder" "B" (.int (0 : Int32))) (hp3 : n0 ≤ a0) (hp4 : Arv Z h0 a1 kc .char (2 : Int32) [(.int c0), (.int c1)] (.int (0 : Int32))) (hp5 : Sta Z h0 "java/lang/String" "COMPACT_STRINGS" "Z" (.int g1)) (hq0 : ¬ ((255 : Int32) < c0)) (hq1 : ¬ ((255 : Int32) < c1)) (hg1 : ¬ (g1 = (0 : Int32))) :
    MetFree l (⟨"java/lang/String", "<init>", "([C)V"⟩ : MethodName) (head1 (Jvm.Cond.code (⟨"java/lang/String", "<init>", "([C)V"⟩ : MethodName) jdk_42_method_3_code 2 none :: ws) ({ frames := 3, cells := 1, slots := 2, locals := 52 } : Room)) (fun a U => a = #[(.ref a0), (.ref a1)] ∧ Z.Warmed39 U.vm ∧ U.heap = h0) (fun _ _ _ _ _ => True) (fun _ U o U' => ∃ v L, o = .returned v ∧ Q_si1_2 Z a0 a1 kc c0 c1 g1 h0 n0 v U'.heap L ∧ FrameEnd U o U' L ({ frames := 3, cells := 1, slots := 2, locals := 52 } : Room).cells ({ frames := 3, cells := 1, slots := 2, locals := 52 } : Room).slots) := by
  refine MetFree.of_bodySF (plainFor_of_name pn1) hisR ?_
  intro p e s m args below meth c s₁ Bd hml0 hP hK
  obtain ⟨rfl, hZ, hh⟩ := hP
  have hx := Bd.exec
  have hby := Bd.bytes
  have hml : c.maxLocals = 2 := hml0
  have hown : s.vm.findClass "java/lang/String" = some m.cls := findClass_of_methodNamed Bd.named
  have hnm := (name_of_methodNamed Bd.named Bd.method).1
  have hlk := Bd.notSynchronized
  have hrt := Bd.returns
  have X0 : Stand p l e ({ frames := 3, cells := 1, slots := 2, locals := 52 } : Room) s m #[(.ref a0), (.ref a1)] below meth c s₁ [] 0 0 := Stand.of_body Bd
  have e0 : s₁.heap = h0 := by rw [← hh, Bd.state]; rfl
  have N0 := Fr.nil n0
  refine own_cast (P := own_End s (Q_si1_2 Z a0 a1 kc c0 c1 g1 h0 n0) ({ frames := 3, cells := 1, slots := 2, locals := 52 } : Room).cells ({ frames := 3, cells := 1, slots := 2, locals := 52 } : Room).slots) (ef_si1_2 m a0 a1) ?_
  refine g_aloadN X0 hx hby d_si1_2_0 rfl rfl (rfl : 0 + 1 = 1) ?_
  refine g_aloadN X0 hx hby d_si1_2_1 rfl rfl (rfl : 1 + 1 = 2) ?_
  refine g_iconst X0 hx hby (0 : Int32) d_si1_2_2 (by decide) (rfl : 2 + 1 = 3) ?_
  refine g_aloadN X0 hx hby d_si1_2_3 rfl rfl (rfl : 3 + 1 = 4) ?_
  refine g_alen X0 hx hby hZ e0 hp4 d_si1_2_4 (rfl : 4 + 1 = 5) ?_
  refine g_anull X0 hx hby d_si1_2_5 (rfl : 5 + 1 = 6) ?_
  obtain ⟨_, _, ⟨T56, L56, k56, n56⟩, -, X56, ⟨Lc56, hQ56, l56, y56, z56⟩, st56⟩ := X0.specialBack hx (y := (⟨"java/lang/String", "<init>", "([CIILjava/lang/Void;)V"⟩ : MethodName)) rfl hown (mvT hZ (hw _ (List.mem_of_getElem? (i := 14) rfl))) (mvT hZ (hw _ (List.mem_of_getElem? (i := 15) rfl))) (mvT hZ (hw _ (List.mem_of_getElem? (i := 17) rfl))) (by decide) (backOf (W := 0) (rm_si2_2 l Z aT hw [] a0 a1 kc c0 c1 g1 h0 n0 Z0 hp0 hp1 hp2 hp3 hp4 hp5 hq0 hq1 hg1) hZ (hw _ (List.mem_of_getElem? (i := 17) rfl)) (hw _ (List.mem_of_getElem? (i := 9) rfl)) (by decide) (by decide)) (g := (mkF m 6 #[.val (.ref a0), .val (.ref a1)] [.null, (.int (2 : Int32)), (.int (0 : Int32)), (.ref a1), (.ref a0)])) rfl (by rw [hml]; rfl) (Steps.refl _) (a := a0) (argsL := [(.ref a1), (.int (0 : Int32)), (.int (2 : Int32)), .null]) (rest := []) (lenOf pd3 rfl) rfl (by show 2 * 0 + _ ≤ _; exact Nat.le_of_eq rfl) (hb hby d_si1_2_6) (fun _ _ => ⟨rfl, e0, (by decide : 0 + 1 ≤ _), (by decide : 0 + 2 ≤ _)⟩)
  dsimp only [Pt.U, Pt.locs, Pt.cells, Pt.slots] at X56 l56 y56 z56 st56 hQ56
  subst l56 y56 z56
  obtain ⟨ob_56, kb_56, rfl, N56q, K56, q56_0, q56_1, q56_2, q56_3, q56_4, q56_5⟩ := hQ56
  have N56 := Fr.app N0 N56q
  have Z56 : n0 ≤ T56.heap.size := Nat.le_trans Z0 K56.1
  have KC56 : Keep h0 T56.heap [a0] := (Keep.refl h0 [a0]).trans K56 (allS (Or.inl (List.mem_of_getElem? (i := 0) rfl)) all0)
  have ne57 : a0 ≠ ob_56 := Nat.ne_of_lt (Nat.lt_of_lt_of_le (hp0).lt q56_3)
  have ne58 : a1 ≠ ob_56 := Nat.ne_of_lt (Nat.lt_of_lt_of_le (hp4).lt q56_3)
  have ge59 : n0 ≤ ob_56 := Nat.le_trans Z0 q56_3
  have sz60 : h0.size ≤ ob_56 := Nat.le_trans (Keep.refl h0 [a0]).1 q56_3
  refine own_tr st56 ?_
  show own_Got p e below _ T56 (mkF m 9 #[.val (.ref a0), .val (.ref a1)] [])
  refine own_retV X56 hx hby hlk hrt d_si1_2_9 (by decide) (by decide) ?_
  show Q_si1_2 Z a0 a1 kc c0 c1 g1 h0 n0 _ T56.heap _
  exact ⟨ob_56, kb_56, rfl, N56, KC56, q56_0, q56_1, q56_2, sz60, q56_4, q56_5⟩
theorem d_cpI3_0 : decode jdk_52_method_21_code 0 = .ok (.iconst 0, 1) := by decide +kernel
theorem d_cpI3_1 : decode jdk_52_method_21_code 1 = .ok (.istore 5, 2) := by decide +kernel
theorem d_cpI3_3 : decode jdk_52_method_21_code 3 = .ok (.iload 5, 2) := by decide +kernel
theorem d_cpI3_5 : decode jdk_52_method_21_code 5 = .ok (.iload 4, 2) := by decide +kernel
theorem d_cpI3_7 : decode jdk_52_method_21_code 7 = .ok (.if_icmp .ge 37, 3) := by decide +kernel
theorem d_cpI3_10 : decode jdk_52_method_21_code 10 = .ok (.aload_n 0, 1) := by decide +kernel
theorem d_cpI3_11 : decode jdk_52_method_21_code 11 = .ok (.iload_n 1, 1) := by decide +kernel
theorem d_cpI3_12 : decode jdk_52_method_21_code 12 = .ok (.caload, 1) := by decide +kernel
theorem d_cpI3_13 : decode jdk_52_method_21_code 13 = .ok (.istore 6, 2) := by decide +kernel
theorem d_cpI3_15 : decode jdk_52_method_21_code 15 = .ok (.iload 6, 2) := by decide +kernel
theorem d_cpI3_17 : decode jdk_52_method_21_code 17 = .ok (.sipush 255, 3) := by decide +kernel
theorem d_cpI3_20 : decode jdk_52_method_21_code 20 = .ok (.if_icmp .le 6, 3) := by decide +kernel
theorem d_cpI3_26 : decode jdk_52_method_21_code 26 = .ok (.aload_n 2, 1) := by decide +kernel
theorem d_cpI3_27 : decode jdk_52_method_21_code 27 = .ok (.iload_n 3, 1) := by decide +kernel
theorem d_cpI3_28 : decode jdk_52_method_21_code 28 = .ok (.iload 6, 2) := by decide +kernel
theorem d_cpI3_30 : decode jdk_52_method_21_code 30 = .ok (.i2b, 1) := by decide +kernel
theorem d_cpI3_31 : decode jdk_52_method_21_code 31 = .ok (.bastore, 1) := by decide +kernel
theorem d_cpI3_32 : decode jdk_52_method_21_code 32 = .ok (.iinc 1 1, 3) := by decide +kernel
theorem d_cpI3_35 : decode jdk_52_method_21_code 35 = .ok (.iinc 3 1, 3) := by decide +kernel
theorem d_cpI3_38 : decode jdk_52_method_21_code 38 = .ok (.iinc 5 1, 3) := by decide +kernel
theorem d_cpI3_41 : decode jdk_52_method_21_code 41 = .ok (.goto (-38), 3) := by decide +kernel
theorem d_cpI3_44 : decode jdk_52_method_21_code 44 = .ok (.iload 4, 2) := by decide +kernel
theorem d_cpI3_46 : decode jdk_52_method_21_code 46 = .ok (.ireturn, 1) := by decide +kernel
theorem ef_cpI3 (m : MethodId) (a0 : Addr) (a2 : Addr) : entryFrame m #[(.ref a0), (.int (0 : Int32)), (.ref a2), (.int (0 : Int32)), (.int (3 : Int32))] 7 = mkF m 0 #[.val (.ref a0), .val (.int (0 : Int32)), .val (.ref a2), .val (.int (0 : Int32)), .val (.int (3 : Int32)), .unset, .unset] [] := by first | (simp [entryFrame, mkF, argsToLocals, Value.category]; done) | rfl
def Q_cpI3 (Z : State) (a0 : Addr) (a2 : Addr) (kc : ClassId) (c0 : Int32) (c1 : Int32) (c2 : Int32) (kb : ClassId) (h0 : Heap) (n0 : Nat) (v : Option Value) (h : Heap) (L : List Loc) : Prop := v = some (.int (3 : Int32)) ∧ Fr n0 L ∧ Keep h0 h [a2] ∧ Exa Z h a2 "[B" ∧ Arv Z h a2 kb .byte (3 : Int32) [(.int (c0.toInt8.toInt32)), (.int (c1.toInt8.toInt32)), (.int (c2.toInt8.toInt32))] (.int (0 : Int32))
set_option maxRecDepth 65536 in
set_option maxHeartbeats 40000000 in
theorem rm_cpI3 (l : Launch) (Z : State) (aT : Array Value) (hw : ∀ d ∈ tables_1, d.before aT Z = true) (ws : List Jvm.Cond) (a0 : Addr) (a2 : Addr) (kc : ClassId) (c0 : Int32) (c1 : Int32) (c2 : Int32) (kb : ClassId) (h0 : Heap) (n0 : Nat) (Z0 : n0 ≤ h0.size) (hp0 : Arv Z h0 a0 kc .char (3 : Int32) [(.int c0), (.int c1), (.int c2)] (.int (0 : Int32))) (hp1 : Exa Z h0 a2 "[B") (hp2 : Arv Z h0 a2 kb .byte (3 : Int32) [(.int (0 : Int32)), (.int (0 : Int32)), (.int (0 : Int32))] (.int (0 : Int32))) (hp3 : n0 ≤ a2) (hp4 : a0 ≠ a2) (hq0 : ¬ ((255 : Int32) < c0)) (hq1 : ¬ ((255 : Int32) < c1)) (hq2 : ¬ ((255 : Int32) < c2)) :
    MetFree l (⟨"java/lang/StringUTF16", "compress", "([CI[BII)I"⟩ : MethodName) (head1 (Jvm.Cond.code (⟨"java/lang/StringUTF16", "compress", "([CI[BII)I"⟩ : MethodName) jdk_52_method_21_code 7 (some .int) :: ws) ({ frames := 0, cells := 0, slots := 0, locals := 0 } : Room)) (fun a U => a = #[(.ref a0), (.int (0 : Int32)), (.ref a2), (.int (0 : Int32)), (.int (3 : Int32))] ∧ Z.Warmed39 U.vm ∧ U.heap = h0) (fun _ _ _ _ _ => True) (fun _ U o U' => ∃ v L, o = .returned v ∧ Q_cpI3 Z a0 a2 kc c0 c1 c2 kb h0 n0 v U'.heap L ∧ FrameEnd U o U' L ({ frames := 0, cells := 0, slots := 0, locals := 0 } : Room).cells ({ frames := 0, cells := 0, slots := 0, locals := 0 } : Room).slots) := by
  refine MetFree.of_bodySF (plainFor_of_name pn0) hisR ?_
  intro p e s m args below meth c s₁ Bd hml0 hP hK
  obtain ⟨rfl, hZ, hh⟩ := hP
  have hx := Bd.exec
  have hby := Bd.bytes
  have hml : c.maxLocals = 7 := hml0
  have hown : s.vm.findClass "java/lang/StringUTF16" = some m.cls := findClass_of_methodNamed Bd.named
  have hnm := (name_of_methodNamed Bd.named Bd.method).1
  have hlk := Bd.notSynchronized
  have hrt := Bd.returns
  have X0 : Stand p l e ({ frames := 0, cells := 0, slots := 0, locals := 0 } : Room) s m #[(.ref a0), (.int (0 : Int32)), (.ref a2), (.int (0 : Int32)), (.int (3 : Int32))] below meth c s₁ [] 0 0 := Stand.of_body Bd
  have e0 : s₁.heap = h0 := by rw [← hh, Bd.state]; rfl
  have N0 := Fr.nil n0
  refine own_cast (P := own_End s (Q_cpI3 Z a0 a2 kc c0 c1 c2 kb h0 n0) ({ frames := 0, cells := 0, slots := 0, locals := 0 } : Room).cells ({ frames := 0, cells := 0, slots := 0, locals := 0 } : Room).slots) (ef_cpI3 m a0 a2) ?_
  refine g_iconst X0 hx hby (0 : Int32) d_cpI3_0 (by decide) (rfl : 0 + 1 = 1) ?_
  refine g_istore X0 hx hby #[.val (.ref a0), .val (.int (0 : Int32)), .val (.ref a2), .val (.int (0 : Int32)), .val (.int (3 : Int32)), .val (.int (0 : Int32)), .unset] d_cpI3_1 rfl (rfl : 1 + 2 = 3) ?_
  refine g_iload X0 hx hby d_cpI3_3 rfl (rfl : 3 + 2 = 5) ?_
  refine g_iload X0 hx hby d_cpI3_5 rfl (rfl : 5 + 2 = 7) ?_
  refine g_icF X0 hx hby d_cpI3_7 (tlt (by decide : (0 : Int32) < (3 : Int32))).2.1 (rfl : 7 + 3 = 10) ?_
  refine g_aloadN X0 hx hby d_cpI3_10 rfl rfl (rfl : 10 + 1 = 11) ?_
  refine g_iloadN X0 hx hby d_cpI3_11 rfl (rfl : 11 + 1 = 12) ?_
  refine g_caload X0 hx hby hZ e0 (v := (.int c0)) hp0 ⟨by decide, by decide⟩ rfl d_cpI3_12 (rfl : 12 + 1 = 13) ?_
  refine g_istore X0 hx hby #[.val (.ref a0), .val (.int (0 : Int32)), .val (.ref a2), .val (.int (0 : Int32)), .val (.int (3 : Int32)), .val (.int (0 : Int32)), .val (.int c0)] d_cpI3_13 rfl (rfl : 13 + 2 = 15) ?_
  refine g_iload X0 hx hby d_cpI3_15 rfl (rfl : 15 + 2 = 17) ?_
  refine g_sipush X0 hx hby (255 : Int32) d_cpI3_17 (by decide) (rfl : 17 + 3 = 20) ?_
  refine g_icT X0 hx hby d_cpI3_20 (flt hq0).2.2.2 (by decide) (pc' := 26) (by decide) ?_
  refine g_aloadN X0 hx hby d_cpI3_26 rfl rfl (rfl : 26 + 1 = 27) ?_
  refine g_iloadN X0 hx hby d_cpI3_27 rfl (rfl : 27 + 1 = 28) ?_
  refine g_iload X0 hx hby d_cpI3_28 rfl (rfl : 28 + 2 = 30) ?_
  refine g_i2b X0 hx hby d_cpI3_30 (rfl : 30 + 1 = 31) ?_
  obtain ⟨T61, h61, X61, e61, W61, V61, st61⟩ := a_bastore X0 hx hby hZ e0 (ls := #[.val (.ref a0), .val (.int (0 : Int32)), .val (.ref a2), .val (.int (0 : Int32)), .val (.int (3 : Int32)), .val (.int (0 : Int32)), .val (.int c0)]) (st := []) (j := (0 : Int32)) (c0.toInt8.toInt32) 0 hp2 ⟨by decide, by decide⟩ (by decide) (Nat.le_of_ble_eq_true rfl) d_cpI3_31
  have Z61 : n0 ≤ h61.size := Nat.le_trans Z0 (Keep.of_wr W61).1
  have N61 := Fr.snoc X61 N0 hp3
  have K61 : Keep h0 h61 [a2] := (Keep.refl h0 [a2]).wr W61 (Or.inl (List.mem_of_getElem? (i := 0) rfl))
  have V61' : Arv Z h61 a2 kb .byte (3 : Int32) [(.int (c0.toInt8.toInt32)), (.int (0 : Int32)), (.int (0 : Int32))] (.int (0 : Int32)) := by have q := V61; rw [own_nb] at q; exact q
  refine own_go st61 ?_
  show own_Got p e below _ T61 (mkF m 32 #[.val (.ref a0), .val (.int (0 : Int32)), .val (.ref a2), .val (.int (0 : Int32)), .val (.int (3 : Int32)), .val (.int (0 : Int32)), .val (.int c0)] [])
  refine g_iinc X61 hx hby #[.val (.ref a0), .val (.int ((0 : Int32) + (1 : Int32))), .val (.ref a2), .val (.int (0 : Int32)), .val (.int (3 : Int32)), .val (.int (0 : Int32)), .val (.int c0)] d_cpI3_32 rfl rfl (rfl : 32 + 3 = 35) ?_
  rw [(by decide : ((0 : Int32) + (1 : Int32)) = (1 : Int32))]
  refine g_iinc X61 hx hby #[.val (.ref a0), .val (.int (1 : Int32)), .val (.ref a2), .val (.int ((0 : Int32) + (1 : Int32))), .val (.int (3 : Int32)), .val (.int (0 : Int32)), .val (.int c0)] d_cpI3_35 rfl rfl (rfl : 35 + 3 = 38) ?_
  rw [(by decide : ((0 : Int32) + (1 : Int32)) = (1 : Int32))]
  refine g_iinc X61 hx hby #[.val (.ref a0), .val (.int (1 : Int32)), .val (.ref a2), .val (.int (1 : Int32)), .val (.int (3 : Int32)), .val (.int ((0 : Int32) + (1 : Int32))), .val (.int c0)] d_cpI3_38 rfl rfl (rfl : 38 + 3 = 41) ?_
  rw [(by decide : ((0 : Int32) + (1 : Int32)) = (1 : Int32))]
  refine g_goto X61 hx hby d_cpI3_41 (by decide) (pc' := 3) (by decide) ?_
  refine g_iload X61 hx hby d_cpI3_3 rfl (rfl : 3 + 2 = 5) ?_
  refine g_iload X61 hx hby d_cpI3_5 rfl (rfl : 5 + 2 = 7) ?_
  refine g_icF X61 hx hby d_cpI3_7 (tlt (by decide : (1 : Int32) < (3 : Int32))).2.1 (rfl : 7 + 3 = 10) ?_
  refine g_aloadN X61 hx hby d_cpI3_10 rfl rfl (rfl : 10 + 1 = 11) ?_
  refine g_iloadN X61 hx hby d_cpI3_11 rfl (rfl : 11 + 1 = 12) ?_
  have f62 : Arv Z h61 a0 kc .char (3 : Int32) [(.int c0), (.int c1), (.int c2)] (.int (0 : Int32)) := (Arv.other hp0 W61 hp4)
  refine g_caload X61 hx hby hZ e61 (v := (.int c1)) f62 ⟨by decide, by decide⟩ rfl d_cpI3_12 (rfl : 12 + 1 = 13) ?_
  refine g_istore X61 hx hby #[.val (.ref a0), .val (.int (1 : Int32)), .val (.ref a2), .val (.int (1 : Int32)), .val (.int (3 : Int32)), .val (.int (1 : Int32)), .val (.int c1)] d_cpI3_13 rfl (rfl : 13 + 2 = 15) ?_
  refine g_iload X61 hx hby d_cpI3_15 rfl (rfl : 15 + 2 = 17) ?_
  refine g_sipush X61 hx hby (255 : Int32) d_cpI3_17 (by decide) (rfl : 17 + 3 = 20) ?_
  refine g_icT X61 hx hby d_cpI3_20 (flt hq1).2.2.2 (by decide) (pc' := 26) (by decide) ?_
  refine g_aloadN X61 hx hby d_cpI3_26 rfl rfl (rfl : 26 + 1 = 27) ?_
  refine g_iloadN X61 hx hby d_cpI3_27 rfl (rfl : 27 + 1 = 28) ?_
  refine g_iload X61 hx hby d_cpI3_28 rfl (rfl : 28 + 2 = 30) ?_
  refine g_i2b X61 hx hby d_cpI3_30 (rfl : 30 + 1 = 31) ?_
  obtain ⟨T63, h63, X63, e63, W63, V63, st63⟩ := a_bastore X61 hx hby hZ e61 (ls := #[.val (.ref a0), .val (.int (1 : Int32)), .val (.ref a2), .val (.int (1 : Int32)), .val (.int (3 : Int32)), .val (.int (1 : Int32)), .val (.int c1)]) (st := []) (j := (1 : Int32)) (c1.toInt8.toInt32) 1 V61' ⟨by decide, by decide⟩ (by decide) (Nat.le_of_ble_eq_true rfl) d_cpI3_31
  have Z63 : n0 ≤ h63.size := Nat.le_trans Z61 (Keep.of_wr W63).1
  have N63 := Fr.snoc X63 N61 hp3
  have K63 : Keep h0 h63 [a2] := K61.wr W63 (Or.inl (List.mem_of_getElem? (i := 0) rfl))
  have V63' : Arv Z h63 a2 kb .byte (3 : Int32) [(.int (c0.toInt8.toInt32)), (.int (c1.toInt8.toInt32)), (.int (0 : Int32))] (.int (0 : Int32)) := by have q := V63; rw [own_nb] at q; exact q
  refine own_go st63 ?_
  show own_Got p e below _ T63 (mkF m 32 #[.val (.ref a0), .val (.int (1 : Int32)), .val (.ref a2), .val (.int (1 : Int32)), .val (.int (3 : Int32)), .val (.int (1 : Int32)), .val (.int c1)] [])
  refine g_iinc X63 hx hby #[.val (.ref a0), .val (.int ((1 : Int32) + (1 : Int32))), .val (.ref a2), .val (.int (1 : Int32)), .val (.int (3 : Int32)), .val (.int (1 : Int32)), .val (.int c1)] d_cpI3_32 rfl rfl (rfl : 32 + 3 = 35) ?_
  rw [(by decide : ((1 : Int32) + (1 : Int32)) = (2 : Int32))]
  refine g_iinc X63 hx hby #[.val (.ref a0), .val (.int (2 : Int32)), .val (.ref a2), .val (.int ((1 : Int32) + (1 : Int32))), .val (.int (3 : Int32)), .val (.int (1 : Int32)), .val (.int c1)] d_cpI3_35 rfl rfl (rfl : 35 + 3 = 38) ?_
  rw [(by decide : ((1 : Int32) + (1 : Int32)) = (2 : Int32))]
  refine g_iinc X63 hx hby #[.val (.ref a0), .val (.int (2 : Int32)), .val (.ref a2), .val (.int (2 : Int32)), .val (.int (3 : Int32)), .val (.int ((1 : Int32) + (1 : Int32))), .val (.int c1)] d_cpI3_38 rfl rfl (rfl : 38 + 3 = 41) ?_
  rw [(by decide : ((1 : Int32) + (1 : Int32)) = (2 : Int32))]
  refine g_goto X63 hx hby d_cpI3_41 (by decide) (pc' := 3) (by decide) ?_
  refine g_iload X63 hx hby d_cpI3_3 rfl (rfl : 3 + 2 = 5) ?_
  refine g_iload X63 hx hby d_cpI3_5 rfl (rfl : 5 + 2 = 7) ?_
  refine g_icF X63 hx hby d_cpI3_7 (tlt (by decide : (2 : Int32) < (3 : Int32))).2.1 (rfl : 7 + 3 = 10) ?_
  refine g_aloadN X63 hx hby d_cpI3_10 rfl rfl (rfl : 10 + 1 = 11) ?_
  refine g_iloadN X63 hx hby d_cpI3_11 rfl (rfl : 11 + 1 = 12) ?_
  have f64 : Arv Z h63 a0 kc .char (3 : Int32) [(.int c0), (.int c1), (.int c2)] (.int (0 : Int32)) := (Arv.other f62 W63 hp4)
  refine g_caload X63 hx hby hZ e63 (v := (.int c2)) f64 ⟨by decide, by decide⟩ rfl d_cpI3_12 (rfl : 12 + 1 = 13) ?_
  refine g_istore X63 hx hby #[.val (.ref a0), .val (.int (2 : Int32)), .val (.ref a2), .val (.int (2 : Int32)), .val (.int (3 : Int32)), .val (.int (2 : Int32)), .val (.int c2)] d_cpI3_13 rfl (rfl : 13 + 2 = 15) ?_
  refine g_iload X63 hx hby d_cpI3_15 rfl (rfl : 15 + 2 = 17) ?_
  refine g_sipush X63 hx hby (255 : Int32) d_cpI3_17 (by decide) (rfl : 17 + 3 = 20) ?_
  refine g_icT X63 hx hby d_cpI3_20 (flt hq2).2.2.2 (by decide) (pc' := 26) (by decide) ?_
  refine g_aloadN X63 hx hby d_cpI3_26 rfl rfl (rfl : 26 + 1 = 27) ?_
  refine g_iloadN X63 hx hby d_cpI3_27 rfl (rfl : 27 + 1 = 28) ?_
  refine g_iload X63 hx hby d_cpI3_28 rfl (rfl : 28 + 2 = 30) ?_
  refine g_i2b X63 hx hby d_cpI3_30 (rfl : 30 + 1 = 31) ?_
  obtain ⟨T65, h65, X65, e65, W65, V65, st65⟩ := a_bastore X63 hx hby hZ e63 (ls := #[.val (.ref a0), .val (.int (2 : Int32)), .val (.ref a2), .val (.int (2 : Int32)), .val (.int (3 : Int32)), .val (.int (2 : Int32)), .val (.int c2)]) (st := []) (j := (2 : Int32)) (c2.toInt8.toInt32) 2 V63' ⟨by decide, by decide⟩ (by decide) (Nat.le_of_ble_eq_true rfl) d_cpI3_31
  have Z65 : n0 ≤ h65.size := Nat.le_trans Z63 (Keep.of_wr W65).1
  have N65 := Fr.snoc X65 N63 hp3
  have K65 : Keep h0 h65 [a2] := K63.wr W65 (Or.inl (List.mem_of_getElem? (i := 0) rfl))
  have V65' : Arv Z h65 a2 kb .byte (3 : Int32) [(.int (c0.toInt8.toInt32)), (.int (c1.toInt8.toInt32)), (.int (c2.toInt8.toInt32))] (.int (0 : Int32)) := by have q := V65; rw [own_nb] at q; exact q
  refine own_go st65 ?_
  show own_Got p e below _ T65 (mkF m 32 #[.val (.ref a0), .val (.int (2 : Int32)), .val (.ref a2), .val (.int (2 : Int32)), .val (.int (3 : Int32)), .val (.int (2 : Int32)), .val (.int c2)] [])
  refine g_iinc X65 hx hby #[.val (.ref a0), .val (.int ((2 : Int32) + (1 : Int32))), .val (.ref a2), .val (.int (2 : Int32)), .val (.int (3 : Int32)), .val (.int (2 : Int32)), .val (.int c2)] d_cpI3_32 rfl rfl (rfl : 32 + 3 = 35) ?_
  rw [(by decide : ((2 : Int32) + (1 : Int32)) = (3 : Int32))]
  refine g_iinc X65 hx hby #[.val (.ref a0), .val (.int (3 : Int32)), .val (.ref a2), .val (.int ((2 : Int32) + (1 : Int32))), .val (.int (3 : Int32)), .val (.int (2 : Int32)), .val (.int c2)] d_cpI3_35 rfl rfl (rfl : 35 + 3 = 38) ?_
  rw [(by decide : ((2 : Int32) + (1 : Int32)) = (3 : Int32))]
  refine g_iinc X65 hx hby #[.val (.ref a0), .val (.int (3 : Int32)), .val (.ref a2), .val (.int (3 : Int32)), .val (.int (3 : Int32)), .val (.int ((2 : Int32) + (1 : Int32))), .val (.int c2)] d_cpI3_38 rfl rfl (rfl : 38 + 3 = 41) ?_
  rw [(by decide : ((2 : Int32) + (1 : Int32)) = (3 : Int32))]
  refine g_goto X65 hx hby d_cpI3_41 (by decide) (pc' := 3) (by decide) ?_
  refine g_iload X65 hx hby d_cpI3_3 rfl (rfl : 3 + 2 = 5) ?_
  refine g_iload X65 hx hby d_cpI3_5 rfl (rfl : 5 + 2 = 7) ?_
  refine g_icT X65 hx hby d_cpI3_7 (flt (by decide : ¬ ((3 : Int32) < (3 : Int32)))).2.1 (by decide) (pc' := 44) (by decide) ?_
  refine g_iload X65 hx hby d_cpI3_44 rfl (rfl : 44 + 2 = 46) ?_
  have f66 : Exa Z h65 a2 "[B" := (Exa.wr W65 (Exa.wr W63 (Exa.wr W61 hp1)))
  refine own_retI X65 hx hby hlk hrt d_cpI3_46 (by decide) (by decide) ?_
  show Q_cpI3 Z a0 a2 kc c0 c1 c2 kb h0 n0 _ T65.heap _
  rw [e65]
  exact ⟨rfl, N65, K65, f66, V65'⟩
theorem d_cpB3_0 : decode jdk_52_method_16_code 0 = .ok (.iload_n 2, 1) := by decide +kernel
theorem d_cpB3_1 : decode jdk_52_method_16_code 1 = .ok (.newarray .byte, 2) := by decide +kernel
theorem d_cpB3_3 : decode jdk_52_method_16_code 3 = .ok (.astore_n 3, 1) := by decide +kernel
theorem d_cpB3_4 : decode jdk_52_method_16_code 4 = .ok (.aload_n 0, 1) := by decide +kernel
theorem d_cpB3_5 : decode jdk_52_method_16_code 5 = .ok (.iload_n 1, 1) := by decide +kernel
theorem d_cpB3_6 : decode jdk_52_method_16_code 6 = .ok (.aload_n 3, 1) := by decide +kernel
theorem d_cpB3_7 : decode jdk_52_method_16_code 7 = .ok (.iconst 0, 1) := by decide +kernel
theorem d_cpB3_8 : decode jdk_52_method_16_code 8 = .ok (.iload_n 2, 1) := by decide +kernel
theorem d_cpB3_9 : decode jdk_52_method_16_code 9 = .ok (.invokestatic 115, 3) := by decide +kernel
theorem d_cpB3_12 : decode jdk_52_method_16_code 12 = .ok (.istore 4, 2) := by decide +kernel
theorem d_cpB3_14 : decode jdk_52_method_16_code 14 = .ok (.iload 4, 2) := by decide +kernel
theorem d_cpB3_16 : decode jdk_52_method_16_code 16 = .ok (.iload_n 2, 1) := by decide +kernel
theorem d_cpB3_17 : decode jdk_52_method_16_code 17 = .ok (.if_icmp .eq 40, 3) := by decide +kernel
theorem d_cpB3_57 : decode jdk_52_method_16_code 57 = .ok (.aload_n 3, 1) := by decide +kernel
theorem d_cpB3_58 : decode jdk_52_method_16_code 58 = .ok (.areturn, 1) := by decide +kernel
theorem ef_cpB3 (m : MethodId) (a0 : Addr) : entryFrame m #[(.ref a0), (.int (0 : Int32)), (.int (3 : Int32))] 6 = mkF m 0 #[.val (.ref a0), .val (.int (0 : Int32)), .val (.int (3 : Int32)), .unset, .unset, .unset] [] := by first | (simp [entryFrame, mkF, argsToLocals, Value.category]; done) | rfl
def Q_cpB3 (Z : State) (a0 : Addr) (kc : ClassId) (c0 : Int32) (c1 : Int32) (c2 : Int32) (h0 : Heap) (n0 : Nat) (v : Option Value) (h : Heap) (L : List Loc) : Prop := ∃ (ob : Addr), ∃ (kb : ClassId), v = some (.ref ob) ∧ Fr n0 L ∧ Keep h0 h [] ∧ h0.size ≤ ob ∧ Exa Z h ob "[B" ∧ Arv Z h ob kb .byte (3 : Int32) [(.int (c0.toInt8.toInt32)), (.int (c1.toInt8.toInt32)), (.int (c2.toInt8.toInt32))] (.int (0 : Int32))
set_option maxRecDepth 65536 in
set_option maxHeartbeats 40000000 in
theorem rm_cpB3 (l : Launch) (Z : State) (aT : Array Value) (hw : ∀ d ∈ tables_1, d.before aT Z = true) (ws : List Jvm.Cond) (a0 : Addr) (kc : ClassId) (c0 : Int32) (c1 : Int32) (c2 : Int32) (h0 : Heap) (n0 : Nat) (Z0 : n0 ≤ h0.size) (hp0 : Arv Z h0 a0 kc .char (3 : Int32) [(.int c0), (.int c1), (.int c2)] (.int (0 : Int32))) (hq0 : ¬ ((255 : Int32) < c0)) (hq1 : ¬ ((255 : Int32) < c1)) (hq2 : ¬ ((255 : Int32) < c2)) :
    MetFree l (⟨"java/lang/StringUTF16", "compress", "([CII)[B"⟩ : MethodName) (head1 (Jvm.Cond.code (⟨"java/lang/StringUTF16", "compress", "([CII)[B"⟩ : MethodName) jdk_52_method_16_code 6 (some (.array .byte)) :: ws) ({ frames := 1, cells := 1, slots := 3, locals := 18 } : Room)) (fun a U => a = #[(.ref a0), (.int (0 : Int32)), (.int (3 : Int32))] ∧ Z.Warmed39 U.vm ∧ U.heap = h0) (fun _ _ _ _ _ => True) (fun _ U o U' => ∃ v L, o = .returned v ∧ Q_cpB3 Z a0 kc c0 c1 c2 h0 n0 v U'.heap L ∧ FrameEnd U o U' L ({ frames := 1, cells := 1, slots := 3, locals := 18 } : Room).cells ({ frames := 1, cells := 1, slots := 3, locals := 18 } : Room).slots) := by
  refine MetFree.of_bodySF (plainFor_of_name pn0) hisR ?_
  intro p e s m args below meth c s₁ Bd hml0 hP hK
  obtain ⟨rfl, hZ, hh⟩ := hP
  have hx := Bd.exec
  have hby := Bd.bytes
  have hml : c.maxLocals = 6 := hml0
  have hown : s.vm.findClass "java/lang/StringUTF16" = some m.cls := findClass_of_methodNamed Bd.named
  have hnm := (name_of_methodNamed Bd.named Bd.method).1
  have hlk := Bd.notSynchronized
  have hrt := Bd.returns
  have X0 : Stand p l e ({ frames := 1, cells := 1, slots := 3, locals := 18 } : Room) s m #[(.ref a0), (.int (0 : Int32)), (.int (3 : Int32))] below meth c s₁ [] 0 0 := Stand.of_body Bd
  have e0 : s₁.heap = h0 := by rw [← hh, Bd.state]; rfl
  have N0 := Fr.nil n0
  refine own_cast (P := own_End s (Q_cpB3 Z a0 kc c0 c1 c2 h0 n0) ({ frames := 1, cells := 1, slots := 3, locals := 18 } : Room).cells ({ frames := 1, cells := 1, slots := 3, locals := 18 } : Room).slots) (ef_cpB3 m a0) ?_
  refine g_iloadN X0 hx hby d_cpB3_0 rfl (rfl : 0 + 1 = 1) ?_
  obtain ⟨T67, h67, k67, X67, e67, E67, A67, B67, st67⟩ := newPE X0 hx hZ (hw _ (List.mem_of_getElem? (i := 22) rfl)) e0 (g := (mkF m 1 #[.val (.ref a0), .val (.int (0 : Int32)), .val (.int (3 : Int32)), .unset, .unset, .unset] [(.int (3 : Int32))])) rfl (hb hby d_cpB3_1) rfl (by decide) (cap := 3) (by decide) (by decide) (by decide) (by decide) (ad := "[B") (by decide +kernel)
  obtain ⟨b67, g67⟩ : ∃ z, z = h0.size := ⟨_, rfl⟩
  rw [← g67] at A67 B67 st67
  have ne68 : a0 ≠ b67 := Nat.ne_of_lt (Nat.lt_of_lt_of_le (hp0).lt (Nat.le_of_eq g67.symm))
  have Z67 : n0 ≤ h67.size := Nat.le_trans Z0 E67.1
  have K67 : Keep h0 h67 [] := (Keep.refl h0 []).ext E67
  have ge67 : n0 ≤ b67 := Nat.le_trans Z0 (Nat.le_of_eq g67.symm)
  have sz67 : h0.size ≤ b67 := Nat.le_trans (Keep.refl h0 []).1 (Nat.le_of_eq g67.symm)
  have V67 : Arv Z h67 b67 k67 .byte (3 : Int32) [(.int (0 : Int32)), (.int (0 : Int32)), (.int (0 : Int32))] (.int (0 : Int32)) := (Arv.new A67 (by decide)).pad (pad_rep [] _ 3)
  refine own_go st67 ?_
  show own_Got p e below _ T67 (mkF m 3 #[.val (.ref a0), .val (.int (0 : Int32)), .val (.int (3 : Int32)), .unset, .unset, .unset] [(.ref b67)])
  refine g_astoreN X67 hx hby #[.val (.ref a0), .val (.int (0 : Int32)), .val (.int (3 : Int32)), .val (.ref b67), .unset, .unset] d_cpB3_3 rfl rfl (rfl : 3 + 1 = 4) ?_
  refine g_aloadN X67 hx hby d_cpB3_4 rfl rfl (rfl : 4 + 1 = 5) ?_
  refine g_iloadN X67 hx hby d_cpB3_5 rfl (rfl : 5 + 1 = 6) ?_
  refine g_aloadN X67 hx hby d_cpB3_6 rfl rfl (rfl : 6 + 1 = 7) ?_
  refine g_iconst X67 hx hby (0 : Int32) d_cpB3_7 (by decide) (rfl : 7 + 1 = 8) ?_
  refine g_iloadN X67 hx hby d_cpB3_8 rfl (rfl : 8 + 1 = 9) ?_
  have f70 : Arv Z h67 a0 kc .char (3 : Int32) [(.int c0), (.int c1), (.int c2)] (.int (0 : Int32)) := (hp0.ext E67)
  obtain ⟨_, _, ⟨T69, L69, k69, n69⟩, -, X69, ⟨Lc69, hQ69, l69, y69, z69⟩, st69⟩ := Jvm.LawKit.callS X67 hx (y := (⟨"java/lang/StringUTF16", "compress", "([CI[BII)I"⟩ : MethodName)) hown (mvT hZ (hw _ (List.mem_of_getElem? (i := 69) rfl))) (mvT hZ (hw _ (List.mem_of_getElem? (i := 70) rfl))) (mvT hZ (hw _ (List.mem_of_getElem? (i := 67) rfl))) (mvT hZ (hw _ (List.mem_of_getElem? (i := 71) rfl))) (by decide) (backOf (W := 0) (rm_cpI3 l Z aT hw [] a0 b67 kc c0 c1 c2 k67 h67 n0 Z67 f70 B67 V67 ge67 ne68 hq0 hq1 hq2) hZ (hw _ (List.mem_of_getElem? (i := 71) rfl)) (hw _ (List.mem_of_getElem? (i := 67) rfl)) (by decide) (by decide)) (g := (mkF m 9 #[.val (.ref a0), .val (.int (0 : Int32)), .val (.int (3 : Int32)), .val (.ref b67), .unset, .unset] [(.int (3 : Int32)), (.int (0 : Int32)), (.ref b67), (.int (0 : Int32)), (.ref a0)])) rfl (by rw [hml]; rfl) (argsL := [(.ref a0), (.int (0 : Int32)), (.ref b67), (.int (0 : Int32)), (.int (3 : Int32))]) (rest := []) (lenOf pd0 rfl) rfl (by show 2 * 0 + _ ≤ _; exact Nat.le_of_eq rfl) (hb hby d_cpB3_9) (fun _ _ => ⟨rfl, e67, (by decide : 1 + 0 ≤ _), (by decide : 3 + 0 ≤ _)⟩)
  dsimp only [Pt.U, Pt.locs, Pt.cells, Pt.slots] at X69 l69 y69 z69 st69 hQ69
  subst l69 y69 z69
  obtain ⟨rfl, N69q, K69, q69_0, q69_1⟩ := hQ69
  have N69 := Fr.app N0 N69q
  have Z69 : n0 ≤ T69.heap.size := Nat.le_trans Z67 K69.1
  have KC69 : Keep h0 T69.heap [] := K67.trans K69 (allS (Or.inr sz67) all0)
  refine own_go st69 ?_
  show own_Got p e below _ T69 (mkF m 12 #[.val (.ref a0), .val (.int (0 : Int32)), .val (.int (3 : Int32)), .val (.ref b67), .unset, .unset] [(.int (3 : Int32))])
  refine g_istore X69 hx hby #[.val (.ref a0), .val (.int (0 : Int32)), .val (.int (3 : Int32)), .val (.ref b67), .val (.int (3 : Int32)), .unset] d_cpB3_12 rfl (rfl : 12 + 2 = 14) ?_
  refine g_iload X69 hx hby d_cpB3_14 rfl (rfl : 14 + 2 = 16) ?_
  refine g_iloadN X69 hx hby d_cpB3_16 rfl (rfl : 16 + 1 = 17) ?_
  refine g_icT X69 hx hby d_cpB3_17 (teq (by decide : (3 : Int32) = (3 : Int32))).1 (by decide) (pc' := 57) (by decide) ?_
  refine g_aloadN X69 hx hby d_cpB3_57 rfl rfl (rfl : 57 + 1 = 58) ?_
  refine own_retR X69 hx hby hlk hrt rfl d_cpB3_58 (by decide) (by decide) rfl ?_
  show Q_cpB3 Z a0 kc c0 c1 c2 h0 n0 _ T69.heap _
  exact ⟨b67, k67, rfl, N69, KC69, sz67, q69_0, q69_1⟩
theorem d_cfl3_0 : decode jdk_52_method_15_code 0 = .ok (.iload_n 1, 1) := by decide +kernel
theorem d_cfl3_1 : decode jdk_52_method_15_code 1 = .ok (.aload_n 0, 1) := by decide +kernel
theorem d_cfl3_2 : decode jdk_52_method_15_code 2 = .ok (.arraylength, 1) := by decide +kernel
theorem d_cfl3_3 : decode jdk_52_method_15_code 3 = .ok (.isub, 1) := by decide +kernel
theorem d_cfl3_4 : decode jdk_52_method_15_code 4 = .ok (.bipush 31, 2) := by decide +kernel
theorem d_cfl3_6 : decode jdk_52_method_15_code 6 = .ok (.iushr, 1) := by decide +kernel
theorem d_cfl3_7 : decode jdk_52_method_15_code 7 = .ok (.i2b, 1) := by decide +kernel
theorem d_cfl3_8 : decode jdk_52_method_15_code 8 = .ok (.ireturn, 1) := by decide +kernel
theorem ef_cfl3 (m : MethodId) (a0 : Addr) : entryFrame m #[(.ref a0), (.int (3 : Int32))] 2 = mkF m 0 #[.val (.ref a0), .val (.int (3 : Int32))] [] := by first | (simp [entryFrame, mkF, argsToLocals, Value.category]; done) | rfl
def Q_cfl3 (Z : State) (a0 : Addr) (kb : ClassId) (vs : List Value) (h0 : Heap) (n0 : Nat) (v : Option Value) (h : Heap) (L : List Loc) : Prop := v = some (.int (0 : Int32)) ∧ Fr n0 L ∧ h = h0
set_option maxRecDepth 65536 in
set_option maxHeartbeats 40000000 in
theorem rm_cfl3 (l : Launch) (Z : State) (aT : Array Value) (hw : ∀ d ∈ tables_1, d.before aT Z = true) (ws : List Jvm.Cond) (a0 : Addr) (kb : ClassId) (vs : List Value) (h0 : Heap) (n0 : Nat) (Z0 : n0 ≤ h0.size) (hp0 : Arv Z h0 a0 kb .byte (3 : Int32) vs (.int (0 : Int32))) :
    MetFree l (⟨"java/lang/StringUTF16", "coderFromArrayLen", "([BI)B"⟩ : MethodName) (head1 (Jvm.Cond.code (⟨"java/lang/StringUTF16", "coderFromArrayLen", "([BI)B"⟩ : MethodName) jdk_52_method_15_code 2 (some .byte) :: ws) ({ frames := 0, cells := 0, slots := 0, locals := 0 } : Room)) (fun a U => a = #[(.ref a0), (.int (3 : Int32))] ∧ Z.Warmed39 U.vm ∧ U.heap = h0) (fun _ _ _ _ _ => True) (fun _ U o U' => ∃ v L, o = .returned v ∧ Q_cfl3 Z a0 kb vs h0 n0 v U'.heap L ∧ FrameEnd U o U' L ({ frames := 0, cells := 0, slots := 0, locals := 0 } : Room).cells ({ frames := 0, cells := 0, slots := 0, locals := 0 } : Room).slots) := by
  refine MetFree.of_bodySF (plainFor_of_name pn0) hisR ?_
  intro p e s m args below meth c s₁ Bd hml0 hP hK
  obtain ⟨rfl, hZ, hh⟩ := hP
  have hx := Bd.exec
  have hby := Bd.bytes
  have hml : c.maxLocals = 2 := hml0
  have hown : s.vm.findClass "java/lang/StringUTF16" = some m.cls := findClass_of_methodNamed Bd.named
  have hnm := (name_of_methodNamed Bd.named Bd.method).1
  have hlk := Bd.notSynchronized
  have hrt := Bd.returns
  have X0 : Stand p l e ({ frames := 0, cells := 0, slots := 0, locals := 0 } : Room) s m #[(.ref a0), (.int (3 : Int32))] below meth c s₁ [] 0 0 := Stand.of_body Bd
  have e0 : s₁.heap = h0 := by rw [← hh, Bd.state]; rfl
  have N0 := Fr.nil n0
  refine own_cast (P := own_End s (Q_cfl3 Z a0 kb vs h0 n0) ({ frames := 0, cells := 0, slots := 0, locals := 0 } : Room).cells ({ frames := 0, cells := 0, slots := 0, locals := 0 } : Room).slots) (ef_cfl3 m a0) ?_
  refine g_iloadN X0 hx hby d_cfl3_0 rfl (rfl : 0 + 1 = 1) ?_
  refine g_aloadN X0 hx hby d_cfl3_1 rfl rfl (rfl : 1 + 1 = 2) ?_
  refine g_alen X0 hx hby hZ e0 hp0 d_cfl3_2 (rfl : 2 + 1 = 3) ?_
  refine g_isub X0 hx hby d_cfl3_3 (rfl : 3 + 1 = 4) ?_
  rw [(by decide : ((3 : Int32) - (3 : Int32)) = (0 : Int32))]
  refine g_bipush X0 hx hby (31 : Int32) d_cfl3_4 (by decide) (rfl : 4 + 2 = 6) ?_
  refine g_iushr X0 hx hby d_cfl3_6 (rfl : 6 + 1 = 7) ?_
  rw [(by decide : (((0 : Int32).toUInt32 >>> ((31 : Int32) &&& 31).toUInt32).toInt32) = (0 : Int32))]
  refine g_i2b X0 hx hby d_cfl3_7 (rfl : 7 + 1 = 8) ?_
  rw [(by decide : ((0 : Int32).toInt8.toInt32) = (0 : Int32))]
  refine own_retN X0 hx hby hlk (t := .byte) hrt (by simp) d_cfl3_8 (by decide) (by decide) ?_
  show Q_cfl3 Z a0 kb vs h0 n0 _ s₁.heap _
  exact ⟨rfl, N0, e0⟩
theorem d_si2_3_0 : decode jdk_42_method_149_code 0 = .ok (.aload_n 0, 1) := by decide +kernel
theorem d_si2_3_1 : decode jdk_42_method_149_code 1 = .ok (.invokespecial 1, 3) := by decide +kernel
theorem d_si2_3_4 : decode jdk_42_method_149_code 4 = .ok (.iload_n 3, 1) := by decide +kernel
theorem d_si2_3_5 : decode jdk_42_method_149_code 5 = .ok (.ifCond .ne 22, 3) := by decide +kernel
theorem d_si2_3_27 : decode jdk_42_method_149_code 27 = .ok (.getstatic 38, 3) := by decide +kernel
theorem d_si2_3_30 : decode jdk_42_method_149_code 30 = .ok (.ifCond .eq 28, 3) := by decide +kernel
theorem d_si2_3_33 : decode jdk_42_method_149_code 33 = .ok (.aload_n 1, 1) := by decide +kernel
theorem d_si2_3_34 : decode jdk_42_method_149_code 34 = .ok (.iload_n 2, 1) := by decide +kernel
theorem d_si2_3_35 : decode jdk_42_method_149_code 35 = .ok (.iload_n 3, 1) := by decide +kernel
theorem d_si2_3_36 : decode jdk_42_method_149_code 36 = .ok (.invokestatic 177, 3) := by decide +kernel
theorem d_si2_3_39 : decode jdk_42_method_149_code 39 = .ok (.astore 5, 2) := by decide +kernel
theorem d_si2_3_41 : decode jdk_42_method_149_code 41 = .ok (.aload_n 0, 1) := by decide +kernel
theorem d_si2_3_42 : decode jdk_42_method_149_code 42 = .ok (.aload 5, 2) := by decide +kernel
theorem d_si2_3_44 : decode jdk_42_method_149_code 44 = .ok (.iload_n 3, 1) := by decide +kernel
theorem d_si2_3_45 : decode jdk_42_method_149_code 45 = .ok (.invokestatic 47, 3) := by decide +kernel
theorem d_si2_3_48 : decode jdk_42_method_149_code 48 = .ok (.putfield 15, 3) := by decide +kernel
theorem d_si2_3_51 : decode jdk_42_method_149_code 51 = .ok (.aload_n 0, 1) := by decide +kernel
theorem d_si2_3_52 : decode jdk_42_method_149_code 52 = .ok (.aload 5, 2) := by decide +kernel
theorem d_si2_3_54 : decode jdk_42_method_149_code 54 = .ok (.putfield 9, 3) := by decide +kernel
theorem d_si2_3_57 : decode jdk_42_method_149_code 57 = .ok (.return_, 1) := by decide +kernel
theorem ef_si2_3 (m : MethodId) (a0 : Addr) (a1 : Addr) : entryFrame m #[(.ref a0), (.ref a1), (.int (0 : Int32)), (.int (3 : Int32)), .null] 6 = mkF m 0 #[.val (.ref a0), .val (.ref a1), .val (.int (0 : Int32)), .val (.int (3 : Int32)), .val .null, .unset] [] := by first | (simp [entryFrame, mkF, argsToLocals, Value.category]; done) | rfl
def Q_si2_3 (Z : State) (a0 : Addr) (a1 : Addr) (kc : ClassId) (c0 : Int32) (c1 : Int32) (c2 : Int32) (g1 : Int32) (h0 : Heap) (n0 : Nat) (v : Option Value) (h : Heap) (L : List Loc) : Prop := ∃ (ob : Addr), ∃ (kb : ClassId), v = none ∧ Fr n0 L ∧ Keep h0 h [a0] ∧ Exa Z h a0 "java/lang/String" ∧ Fld Z h a0 "java/lang/String" "coder" "B" (.int (0 : Int32)) ∧ Fld Z h a0 "java/lang/String" "value" "[B" (.ref ob) ∧ h0.size ≤ ob ∧ Exa Z h ob "[B" ∧ Arv Z h ob kb .byte (3 : Int32) [(.int (c0.toInt8.toInt32)), (.int (c1.toInt8.toInt32)), (.int (c2.toInt8.toInt32))] (.int (0 : Int32))
set_option maxRecDepth 65536 in
set_option maxHeartbeats 40000000 in
theorem rm_si2_3 (l : Launch) (Z : State) (aT : Array Value) (hw : ∀ d ∈ tables_1, d.before aT Z = true) (ws : List Jvm.Cond) (a0 : Addr) (a1 : Addr) (kc : ClassId) (c0 : Int32) (c1 : Int32) (c2 : Int32) (g1 : Int32) (h0 : Heap) (n0 : Nat) (Z0 : n0 ≤ h0.size) (hp0 : Exa Z h0 a0 "java/lang/String") (hp1 : Fld Z h0 a0 "java/lang/String" "value" "[B" .null) (hp2 : Fld Z h0 a0 "java/lang/String" "coder" "B" (.int (0 : Int32))) (hp3 : n0 ≤ a0) (hp4 : Arv Z h0 a1 kc .char (3 : Int32) [(.int c0), (.int c1), (.int c2)] (.int (0 : Int32))) (hp5 : Sta Z h0 "java/lang/String" "COMPACT_STRINGS" "Z" (.int g1)) (hq0 : ¬ ((255 : Int32) < c0)) (hq1 : ¬ ((255 : Int32) < c1)) (hq2 : ¬ ((255 : Int32) < c2)) (hg1 : ¬ (g1 = (0 : Int32))) :
    MetFree l (⟨"java/lang/String", "<init>", "([CIILjava/lang/Void;)V"⟩ : MethodName) (head1 (Jvm.Cond.code (⟨"java/lang/String", "<init>", "([CIILjava/lang/Void;)V"⟩ : MethodName) jdk_42_method_149_code 6 none :: ws) ({ frames := 2, cells := 1, slots := 3, locals := 35 } : Room)) (fun a U => a = #[(.ref a0), (.ref a1), (.int (0 : Int32)), (.int (3 : Int32)), .null] ∧ Z.Warmed39 U.vm ∧ U.heap = h0) (fun _ _ _ _ _ => True) (fun _ U o U' => ∃ v L, o = .returned v ∧ Q_si2_3 Z a0 a1 kc c0 c1 c2 g1 h0 n0 v U'.heap L ∧ FrameEnd U o U' L ({ frames := 2, cells := 1, slots := 3, locals := 35 } : Room).cells ({ frames := 2, cells := 1, slots := 3, locals := 35 } : Room).slots) := by
  refine MetFree.of_bodySF (plainFor_of_name pn1) hisR ?_
  intro p e s m args below meth c s₁ Bd hml0 hP hK
  obtain ⟨rfl, hZ, hh⟩ := hP
  have hx := Bd.exec
  have hby := Bd.bytes
  have hml : c.maxLocals = 6 := hml0
  have hown : s.vm.findClass "java/lang/String" = some m.cls := findClass_of_methodNamed Bd.named
  have hnm := (name_of_methodNamed Bd.named Bd.method).1
  have hlk := Bd.notSynchronized
  have hrt := Bd.returns
  have X0 : Stand p l e ({ frames := 2, cells := 1, slots := 3, locals := 35 } : Room) s m #[(.ref a0), (.ref a1), (.int (0 : Int32)), (.int (3 : Int32)), .null] below meth c s₁ [] 0 0 := Stand.of_body Bd
  have e0 : s₁.heap = h0 := by rw [← hh, Bd.state]; rfl
  have N0 := Fr.nil n0
  refine own_cast (P := own_End s (Q_si2_3 Z a0 a1 kc c0 c1 c2 g1 h0 n0) ({ frames := 2, cells := 1, slots := 3, locals := 35 } : Room).cells ({ frames := 2, cells := 1, slots := 3, locals := 35 } : Room).slots) (ef_si2_3 m a0 a1) ?_
  refine g_aloadN X0 hx hby d_si2_3_0 rfl rfl (rfl : 0 + 1 = 1) ?_
  obtain ⟨T71, X71, e71, st71⟩ := initO X0 hx hZ hown (hw _ (List.mem_of_getElem? (i := 18) rfl)) (hw _ (List.mem_of_getElem? (i := 19) rfl)) (hw _ (List.mem_of_getElem? (i := 20) rfl)) e0 (g := (mkF m 1 #[.val (.ref a0), .val (.ref a1), .val (.int (0 : Int32)), .val (.int (3 : Int32)), .val .null, .unset] [(.ref a0)])) rfl (by rw [hml]; rfl) rfl (hb hby d_si2_3_1) (by decide) (W := 0) (by show 2 * 0 + _ ≤ _; exact Nat.le_of_eq rfl) (by decide)
  refine own_go st71 ?_
  show own_Got p e below _ T71 (mkF m 4 #[.val (.ref a0), .val (.ref a1), .val (.int (0 : Int32)), .val (.int (3 : Int32)), .val .null, .unset] [])
  refine g_iloadN X71 hx hby d_si2_3_4 rfl (rfl : 4 + 1 = 5) ?_
  refine g_ifT X71 hx hby d_si2_3_5 ((if0 _ _).trans (feq (by decide : ¬ ((3 : Int32) = (0 : Int32)))).2) (by decide) (pc' := 27) (by decide) ?_
  obtain ⟨T72, X72, e72, st72⟩ := getS2 X71 hx hZ hown (host := "") (Or.inl (hw _ (List.mem_of_getElem? (i := 60) rfl))) Via.refl e71 hp5 (g := (mkF m 27 #[.val (.ref a0), .val (.ref a1), .val (.int (0 : Int32)), .val (.int (3 : Int32)), .val .null, .unset] [])) rfl (hb hby d_si2_3_27)
  refine own_go st72 ?_
  show own_Got p e below _ T72 (mkF m 30 #[.val (.ref a0), .val (.ref a1), .val (.int (0 : Int32)), .val (.int (3 : Int32)), .val .null, .unset] [(.int g1)])
  refine g_ifF X72 hx hby d_si2_3_30 ((if0 _ _).trans (feq hg1).1) (rfl : 30 + 3 = 33) ?_
  refine g_aloadN X72 hx hby d_si2_3_33 rfl rfl (rfl : 33 + 1 = 34) ?_
  refine g_iloadN X72 hx hby d_si2_3_34 rfl (rfl : 34 + 1 = 35) ?_
  refine g_iloadN X72 hx hby d_si2_3_35 rfl (rfl : 35 + 1 = 36) ?_
  obtain ⟨_, _, ⟨T73, L73, k73, n73⟩, -, X73, ⟨Lc73, hQ73, l73, y73, z73⟩, st73⟩ := Jvm.LawKit.callS X72 hx (y := (⟨"java/lang/StringUTF16", "compress", "([CII)[B"⟩ : MethodName)) hown (mvT hZ (hw _ (List.mem_of_getElem? (i := 65) rfl))) (mvT hZ (hw _ (List.mem_of_getElem? (i := 66) rfl))) (mvT hZ (hw _ (List.mem_of_getElem? (i := 67) rfl))) (mvT hZ (hw _ (List.mem_of_getElem? (i := 68) rfl))) (by decide) (backOf (W := 0) (rm_cpB3 l Z aT hw [] a1 kc c0 c1 c2 h0 n0 Z0 hp4 hq0 hq1 hq2) hZ (hw _ (List.mem_of_getElem? (i := 68) rfl)) (hw _ (List.mem_of_getElem? (i := 67) rfl)) (by decide) (by decide)) (g := (mkF m 36 #[.val (.ref a0), .val (.ref a1), .val (.int (0 : Int32)), .val (.int (3 : Int32)), .val .null, .unset] [(.int (3 : Int32)), (.int (0 : Int32)), (.ref a1)])) rfl (by rw [hml]; rfl) (argsL := [(.ref a1), (.int (0 : Int32)), (.int (3 : Int32))]) (rest := []) (lenOf pd1 rfl) rfl (by show 2 * 0 + _ ≤ _; exact Nat.le_of_eq rfl) (hb hby d_si2_3_36) (fun _ _ => ⟨rfl, e72, (by decide : 0 + 1 ≤ _), (by decide : 0 + 3 ≤ _)⟩)
  dsimp only [Pt.U, Pt.locs, Pt.cells, Pt.slots] at X73 l73 y73 z73 st73 hQ73
  subst l73 y73 z73
  obtain ⟨ob_73, kb_73, rfl, N73q, K73, q73_0, q73_1, q73_2⟩ := hQ73
  have N73 := Fr.app N0 N73q
  have Z73 : n0 ≤ T73.heap.size := Nat.le_trans Z0 K73.1
  have KC73 : Keep h0 T73.heap [a0] := (Keep.refl h0 [a0]).trans K73 all0
  have ne74 : a0 ≠ ob_73 := Nat.ne_of_lt (Nat.lt_of_lt_of_le (hp0).lt q73_0)
  have ne75 : a1 ≠ ob_73 := Nat.ne_of_lt (Nat.lt_of_lt_of_le (hp4).lt q73_0)
  have ge76 : n0 ≤ ob_73 := Nat.le_trans Z0 q73_0
  have sz77 : h0.size ≤ ob_73 := Nat.le_trans (Keep.refl h0 [a0]).1 q73_0
  refine own_go st73 ?_
  show own_Got p e below _ T73 (mkF m 39 #[.val (.ref a0), .val (.ref a1), .val (.int (0 : Int32)), .val (.int (3 : Int32)), .val .null, .unset] [(.ref ob_73)])
  refine g_astore X73 hx hby #[.val (.ref a0), .val (.ref a1), .val (.int (0 : Int32)), .val (.int (3 : Int32)), .val .null, .val (.ref ob_73)] d_si2_3_39 rfl rfl (rfl : 39 + 2 = 41) ?_
  refine g_aloadN X73 hx hby d_si2_3_41 rfl rfl (rfl : 41 + 1 = 42) ?_
  refine g_aload X73 hx hby d_si2_3_42 rfl rfl (rfl : 42 + 2 = 44) ?_
  refine g_iloadN X73 hx hby d_si2_3_44 rfl (rfl : 44 + 1 = 45) ?_
  obtain ⟨_, _, ⟨T78, L78, k78, n78⟩, -, X78, ⟨Lc78, hQ78, l78, y78, z78⟩, st78⟩ := Jvm.LawKit.callS X73 hx (y := (⟨"java/lang/StringUTF16", "coderFromArrayLen", "([BI)B"⟩ : MethodName)) hown (mvT hZ (hw _ (List.mem_of_getElem? (i := 72) rfl))) (mvT hZ (hw _ (List.mem_of_getElem? (i := 73) rfl))) (mvT hZ (hw _ (List.mem_of_getElem? (i := 67) rfl))) (mvT hZ (hw _ (List.mem_of_getElem? (i := 74) rfl))) (by decide) (backOf (W := 1) (rm_cfl3 l Z aT hw [] ob_73 kb_73 [(.int (c0.toInt8.toInt32)), (.int (c1.toInt8.toInt32)), (.int (c2.toInt8.toInt32))] T73.heap n0 Z73 q73_2) hZ (hw _ (List.mem_of_getElem? (i := 74) rfl)) (hw _ (List.mem_of_getElem? (i := 67) rfl)) (by decide) (by decide)) (g := (mkF m 45 #[.val (.ref a0), .val (.ref a1), .val (.int (0 : Int32)), .val (.int (3 : Int32)), .val .null, .val (.ref ob_73)] [(.int (3 : Int32)), (.ref ob_73), (.ref a0)])) rfl (by rw [hml]; rfl) (argsL := [(.ref ob_73), (.int (3 : Int32))]) (rest := [(.ref a0)]) (lenOf pd2 rfl) rfl (by show 2 * 0 + _ ≤ _; exact Nat.le_of_eq rfl) (hb hby d_si2_3_45) (fun _ _ => ⟨rfl, rfl, (by decide : 1 + 0 ≤ _), (by decide : 3 + 0 ≤ _)⟩)
  dsimp only [Pt.U, Pt.locs, Pt.cells, Pt.slots] at X78 l78 y78 z78 st78 hQ78
  subst l78 y78 z78
  obtain ⟨rfl, N78q, eq78⟩ := hQ78
  have N78 := Fr.app N73 N78q
  refine own_go st78 ?_
  show own_Got p e below _ T78 (mkF m 48 #[.val (.ref a0), .val (.ref a1), .val (.int (0 : Int32)), .val (.int (3 : Int32)), .val .null, .val (.ref ob_73)] [(.int (0 : Int32)), (.ref a0)])
  have f79 : Fld Z T73.heap a0 "java/lang/String" "coder" "B" (.int (0 : Int32)) := (Fld.keep hp2 K73 nin0)
  have f80 : Exa Z T73.heap a0 "java/lang/String" := (Exa.keep hp0 K73)
  obtain ⟨T81, h81, X81, e81, W81, st81⟩ := putFN X78 hx hZ hown (hw _ (List.mem_of_getElem? (i := 28) rfl)) Via.refl eq78 f79 f80 (Or.inr ⟨(hw _ (List.mem_of_getElem? (i := 24) rfl)), rfl, hnm⟩) (hw _ (List.mem_of_getElem? (i := 8) rfl)) (ty := .byte) (v' := (.int (0 : Int32))) (by decide) rfl rfl (g := (mkF m 48 #[.val (.ref a0), .val (.ref a1), .val (.int (0 : Int32)), .val (.int (3 : Int32)), .val .null, .val (.ref ob_73)] [(.int (0 : Int32)), (.ref a0)])) rfl rfl (hb hby d_si2_3_48)
  have Z81 : n0 ≤ h81.size := Nat.le_trans Z73 (Keep.of_wr W81).1
  have N81 := Fr.snoc X81 N78 hp3
  have K81 : Keep h0 h81 [a0] := KC73.wr W81 (Or.inl (List.mem_of_getElem? (i := 0) rfl))
  have f81 : Fld Z h81 a0 "java/lang/String" "coder" "B" (.int (0 : Int32)) := Fld.same W81 f79
  refine own_go st81 ?_
  show own_Got p e below _ T81 (mkF m 51 #[.val (.ref a0), .val (.ref a1), .val (.int (0 : Int32)), .val (.int (3 : Int32)), .val .null, .val (.ref ob_73)] [])
  refine g_aloadN X81 hx hby d_si2_3_51 rfl rfl (rfl : 51 + 1 = 52) ?_
  refine g_aload X81 hx hby d_si2_3_52 rfl rfl (rfl : 52 + 2 = 54) ?_
  have f82 : Fld Z h81 a0 "java/lang/String" "value" "[B" .null := (Fld.other W81 (Fld.keep hp1 K73 nin0) (Or.inr (slot_ne (Or.inr (hw _ (List.mem_of_getElem? (i := 23) rfl))) (Or.inr (hw _ (List.mem_of_getElem? (i := 24) rfl))) (by decide) (t := (.array .byte)) (t' := .byte) (by decide) (by decide))))
  have f83 : Exa Z h81 a0 "java/lang/String" := (Exa.wr W81 f80)
  obtain ⟨T84, h84, X84, e84, W84, st84⟩ := putF X81 hx hZ hown (host := "") (Or.inl (hw _ (List.mem_of_getElem? (i := 27) rfl))) Via.refl e81 f82 f83 (Or.inr ⟨(hw _ (List.mem_of_getElem? (i := 23) rfl)), rfl, hnm⟩) (hw _ (List.mem_of_getElem? (i := 8) rfl)) (ty := (.array .byte)) (by decide) rfl rfl (g := (mkF m 54 #[.val (.ref a0), .val (.ref a1), .val (.int (0 : Int32)), .val (.int (3 : Int32)), .val .null, .val (.ref ob_73)] [(.ref ob_73), (.ref a0)])) rfl rfl (hb hby d_si2_3_54)
  have Z84 : n0 ≤ h84.size := Nat.le_trans Z81 (Keep.of_wr W84).1
  have N84 := Fr.snoc X84 N81 hp3
  have K84 : Keep h0 h84 [a0] := K81.wr W84 (Or.inl (List.mem_of_getElem? (i := 0) rfl))
  have f84 : Fld Z h84 a0 "java/lang/String" "value" "[B" (.ref ob_73) := Fld.same W84 f82
  refine own_go st84 ?_
  show own_Got p e below _ T84 (mkF m 57 #[.val (.ref a0), .val (.ref a1), .val (.int (0 : Int32)), .val (.int (3 : Int32)), .val .null, .val (.ref ob_73)] [])
  have f85 : Exa Z h84 a0 "java/lang/String" := (Exa.wr W84 f83)
  have f86 : Fld Z h84 a0 "java/lang/String" "coder" "B" (.int (0 : Int32)) := (Fld.other W84 f81 (Or.inr (slot_ne (Or.inr (hw _ (List.mem_of_getElem? (i := 24) rfl))) (Or.inr (hw _ (List.mem_of_getElem? (i := 23) rfl))) (by decide) (t := .byte) (t' := (.array .byte)) (by decide) (by decide))))
  have f87 : Exa Z h84 ob_73 "[B" := (Exa.wr W84 (Exa.wr W81 q73_1))
  have f88 : Arv Z h84 ob_73 kb_73 .byte (3 : Int32) [(.int (c0.toInt8.toInt32)), (.int (c1.toInt8.toInt32)), (.int (c2.toInt8.toInt32))] (.int (0 : Int32)) := (Arv.other (Arv.other q73_2 W81 (Ne.symm ne74)) W84 (Ne.symm ne74))
  refine own_retV X84 hx hby hlk hrt d_si2_3_57 (by decide) (by decide) ?_
  show Q_si2_3 Z a0 a1 kc c0 c1 c2 g1 h0 n0 _ T84.heap _
  rw [e84]
  exact ⟨ob_73, kb_73, rfl, N84, K84, f85, f86, f84, sz77, f87, f88⟩
theorem d_si1_3_0 : decode jdk_42_method_3_code 0 = .ok (.aload_n 0, 1) := by decide +kernel
theorem d_si1_3_1 : decode jdk_42_method_3_code 1 = .ok (.aload_n 1, 1) := by decide +kernel
theorem d_si1_3_2 : decode jdk_42_method_3_code 2 = .ok (.iconst 0, 1) := by decide +kernel
theorem d_si1_3_3 : decode jdk_42_method_3_code 3 = .ok (.aload_n 1, 1) := by decide +kernel
theorem d_si1_3_4 : decode jdk_42_method_3_code 4 = .ok (.arraylength, 1) := by decide +kernel
theorem d_si1_3_5 : decode jdk_42_method_3_code 5 = .ok (.aconst_null, 1) := by decide +kernel
theorem d_si1_3_6 : decode jdk_42_method_3_code 6 = .ok (.invokespecial 27, 3) := by decide +kernel
theorem d_si1_3_9 : decode jdk_42_method_3_code 9 = .ok (.return_, 1) := by decide +kernel
theorem ef_si1_3 (m : MethodId) (a0 : Addr) (a1 : Addr) : entryFrame m #[(.ref a0), (.ref a1)] 2 = mkF m 0 #[.val (.ref a0), .val (.ref a1)] [] := by first | (simp [entryFrame, mkF, argsToLocals, Value.category]; done) | rfl
def Q_si1_3 (Z : State) (a0 : Addr) (a1 : Addr) (kc : ClassId) (c0 : Int32) (c1 : Int32) (c2 : Int32) (g1 : Int32) (h0 : Heap) (n0 : Nat) (v : Option Value) (h : Heap) (L : List Loc) : Prop := ∃ (ob : Addr), ∃ (kb : ClassId), v = none ∧ Fr n0 L ∧ Keep h0 h [a0] ∧ Exa Z h a0 "java/lang/String" ∧ Fld Z h a0 "java/lang/String" "coder" "B" (.int (0 : Int32)) ∧ Fld Z h a0 "java/lang/String" "value" "[B" (.ref ob) ∧ h0.size ≤ ob ∧ Exa Z h ob "[B" ∧ Arv Z h ob kb .byte (3 : Int32) [(.int (c0.toInt8.toInt32)), (.int (c1.toInt8.toInt32)), (.int (c2.toInt8.toInt32))] (.int (0 : Int32))
set_option maxRecDepth 65536 in
set_option maxHeartbeats 40000000 in
theorem rm_si1_3 (l : Launch) (Z : State) (aT : Array Value) (hw : ∀ d ∈ tables_1, d.before aT Z = true) (ws : List Jvm.Cond) (a0 : Addr) (a1 : Addr) (kc : ClassId) (c0 : Int32) (c1 : Int32) (c2 : Int32) (g1 : Int32) (h0 : Heap) (n0 : Nat) (Z0 : n0 ≤ h0.size) (hp0 : Exa Z h0 a0 "java/lang/String") (hp1 : Fld Z h0 a0 "java/lang/String" "value" "[B" .null) (hp2 : Fld Z h0 a0 "java/lang/String" "coder" "B" (.int (0 : Int32))) (hp3 : n0 ≤ a0) (hp4 : Arv Z h0 a1 kc .char (3 : Int32) [(.int c0), (.int c1), (.int c2)] (.int (0 : Int32))) (hp5 : Sta Z h0 "java/lang/String" "COMPACT_STRINGS" "Z" (.int g1)) (hq0 : ¬ ((255 : Int32) < c0)) (hq1 : ¬ ((255 : Int32) < c1)) (hq2 : ¬ ((255 : Int32) < c2)) (hg1 : ¬ (g1 = (0 : Int32))) :
    MetFree l (⟨"java/lang/String", "<init>", "([C)V"⟩ : MethodName) (head1 (Jvm.Cond.code (⟨"java/lang/String", "<init>", "([C)V"⟩ : MethodName) jdk_42_method_3_code 2 none :: ws) ({ frames := 3, cells := 1, slots := 3, locals := 52 } : Room)) (fun a U => a = #[(.ref a0), (.ref a1)] ∧ Z.Warmed39 U.vm ∧ U.heap = h0) (fun _ _ _ _ _ => True) (fun _ U o U' => ∃ v L, o = .returned v ∧ Q_si1_3 Z a0 a1 kc c0 c1 c2 g1 h0 n0 v U'.heap L ∧ FrameEnd U o U' L ({ frames := 3, cells := 1, slots := 3, locals := 52 } : Room).cells ({ frames := 3, cells := 1, slots := 3, locals := 52 } : Room).slots) := by
  refine MetFree.of_bodySF (plainFor_of_name pn1) hisR ?_
  intro p e s m args below meth c s₁ Bd hml0 hP hK
  obtain ⟨rfl, hZ, hh⟩ := hP
  have hx := Bd.exec
  have hby := Bd.bytes
  have hml : c.maxLocals = 2 := hml0
  have hown : s.vm.findClass "java/lang/String" = some m.cls := findClass_of_methodNamed Bd.named
  have hnm := (name_of_methodNamed Bd.named Bd.method).1
  have hlk := Bd.notSynchronized
  have hrt := Bd.returns
  have X0 : Stand p l e ({ frames := 3, cells := 1, slots := 3, locals := 52 } : Room) s m #[(.ref a0), (.ref a1)] below meth c s₁ [] 0 0 := Stand.of_body Bd
  have e0 : s₁.heap = h0 := by rw [← hh, Bd.state]; rfl
  have N0 := Fr.nil n0
  refine own_cast (P := own_End s (Q_si1_3 Z a0 a1 kc c0 c1 c2 g1 h0 n0) ({ frames := 3, cells := 1, slots := 3, locals := 52 } : Room).cells ({ frames := 3, cells := 1, slots := 3, locals := 52 } : Room).slots) (ef_si1_3 m a0 a1) ?_
  refine g_aloadN X0 hx hby d_si1_3_0 rfl rfl (rfl : 0 + 1 = 1) ?_
  refine g_aloadN X0 hx hby d_si1_3_1 rfl rfl (rfl : 1 + 1 = 2) ?_
  refine g_iconst X0 hx hby (0 : Int32) d_si1_3_2 (by decide) (rfl : 2 + 1 = 3) ?_
  refine g_aloadN X0 hx hby d_si1_3_3 rfl rfl (rfl : 3 + 1 = 4) ?_
  refine g_alen X0 hx hby hZ e0 hp4 d_si1_3_4 (rfl : 4 + 1 = 5) ?_
  refine g_anull X0 hx hby d_si1_3_5 (rfl : 5 + 1 = 6) ?_
  obtain ⟨_, _, ⟨T89, L89, k89, n89⟩, -, X89, ⟨Lc89, hQ89, l89, y89, z89⟩, st89⟩ := X0.specialBack hx (y := (⟨"java/lang/String", "<init>", "([CIILjava/lang/Void;)V"⟩ : MethodName)) rfl hown (mvT hZ (hw _ (List.mem_of_getElem? (i := 14) rfl))) (mvT hZ (hw _ (List.mem_of_getElem? (i := 15) rfl))) (mvT hZ (hw _ (List.mem_of_getElem? (i := 17) rfl))) (by decide) (backOf (W := 0) (rm_si2_3 l Z aT hw [] a0 a1 kc c0 c1 c2 g1 h0 n0 Z0 hp0 hp1 hp2 hp3 hp4 hp5 hq0 hq1 hq2 hg1) hZ (hw _ (List.mem_of_getElem? (i := 17) rfl)) (hw _ (List.mem_of_getElem? (i := 9) rfl)) (by decide) (by decide)) (g := (mkF m 6 #[.val (.ref a0), .val (.ref a1)] [.null, (.int (3 : Int32)), (.int (0 : Int32)), (.ref a1), (.ref a0)])) rfl (by rw [hml]; rfl) (Steps.refl _) (a := a0) (argsL := [(.ref a1), (.int (0 : Int32)), (.int (3 : Int32)), .null]) (rest := []) (lenOf pd3 rfl) rfl (by show 2 * 0 + _ ≤ _; exact Nat.le_of_eq rfl) (hb hby d_si1_3_6) (fun _ _ => ⟨rfl, e0, (by decide : 0 + 1 ≤ _), (by decide : 0 + 3 ≤ _)⟩)
  dsimp only [Pt.U, Pt.locs, Pt.cells, Pt.slots] at X89 l89 y89 z89 st89 hQ89
  subst l89 y89 z89
  obtain ⟨ob_89, kb_89, rfl, N89q, K89, q89_0, q89_1, q89_2, q89_3, q89_4, q89_5⟩ := hQ89
  have N89 := Fr.app N0 N89q
  have Z89 : n0 ≤ T89.heap.size := Nat.le_trans Z0 K89.1
  have KC89 : Keep h0 T89.heap [a0] := (Keep.refl h0 [a0]).trans K89 (allS (Or.inl (List.mem_of_getElem? (i := 0) rfl)) all0)
  have ne90 : a0 ≠ ob_89 := Nat.ne_of_lt (Nat.lt_of_lt_of_le (hp0).lt q89_3)
  have ne91 : a1 ≠ ob_89 := Nat.ne_of_lt (Nat.lt_of_lt_of_le (hp4).lt q89_3)
  have ge92 : n0 ≤ ob_89 := Nat.le_trans Z0 q89_3
  have sz93 : h0.size ≤ ob_89 := Nat.le_trans (Keep.refl h0 [a0]).1 q89_3
  refine own_tr st89 ?_
  show own_Got p e below _ T89 (mkF m 9 #[.val (.ref a0), .val (.ref a1)] [])
  refine own_retV X89 hx hby hlk hrt d_si1_3_9 (by decide) (by decide) ?_
  show Q_si1_3 Z a0 a1 kc c0 c1 c2 g1 h0 n0 _ T89.heap _
  exact ⟨ob_89, kb_89, rfl, N89, KC89, q89_0, q89_1, q89_2, sz93, q89_4, q89_5⟩
theorem d_si2_0_0 : decode jdk_42_method_149_code 0 = .ok (.aload_n 0, 1) := by decide +kernel
theorem d_si2_0_1 : decode jdk_42_method_149_code 1 = .ok (.invokespecial 1, 3) := by decide +kernel
theorem d_si2_0_4 : decode jdk_42_method_149_code 4 = .ok (.iload_n 3, 1) := by decide +kernel
theorem d_si2_0_5 : decode jdk_42_method_149_code 5 = .ok (.ifCond .ne 22, 3) := by decide +kernel
theorem d_si2_0_8 : decode jdk_42_method_149_code 8 = .ok (.aload_n 0, 1) := by decide +kernel
theorem d_si2_0_9 : decode jdk_42_method_149_code 9 = .ok (.ldc 7, 2) := by decide +kernel
theorem d_si2_0_11 : decode jdk_42_method_149_code 11 = .ok (.getfield 9, 3) := by decide +kernel
theorem d_si2_0_14 : decode jdk_42_method_149_code 14 = .ok (.putfield 9, 3) := by decide +kernel
theorem d_si2_0_17 : decode jdk_42_method_149_code 17 = .ok (.aload_n 0, 1) := by decide +kernel
theorem d_si2_0_18 : decode jdk_42_method_149_code 18 = .ok (.ldc 7, 2) := by decide +kernel
theorem d_si2_0_20 : decode jdk_42_method_149_code 20 = .ok (.getfield 15, 3) := by decide +kernel
theorem d_si2_0_23 : decode jdk_42_method_149_code 23 = .ok (.putfield 15, 3) := by decide +kernel
theorem d_si2_0_26 : decode jdk_42_method_149_code 26 = .ok (.return_, 1) := by decide +kernel
theorem ef_si2_0 (m : MethodId) (a0 : Addr) (a1 : Addr) : entryFrame m #[(.ref a0), (.ref a1), (.int (0 : Int32)), (.int (0 : Int32)), .null] 6 = mkF m 0 #[.val (.ref a0), .val (.ref a1), .val (.int (0 : Int32)), .val (.int (0 : Int32)), .val .null, .unset] [] := by first | (simp [entryFrame, mkF, argsToLocals, Value.category]; done) | rfl
def Q_si2_0 (Z : State) (a0 : Addr) (a1 : Addr) (h0 : Heap) (n0 : Nat) (v : Option Value) (h : Heap) (L : List Loc) : Prop := ∃ (ob : Addr), ∃ (kb : ClassId), v = none ∧ Fr n0 L ∧ Keep h0 h [a0] ∧ Exa Z h a0 "java/lang/String" ∧ Fld Z h a0 "java/lang/String" "coder" "B" (.int (0 : Int32)) ∧ Fld Z h a0 "java/lang/String" "value" "[B" (.ref ob) ∧ Arv Z h ob kb .byte (0 : Int32) [] (.int (0 : Int32))
set_option maxRecDepth 65536 in
set_option maxHeartbeats 40000000 in
theorem rm_si2_0 (l : Launch) (Z : State) (aT : Array Value) (hw : ∀ d ∈ tables_1, d.before aT Z = true) (ws : List Jvm.Cond) (a0 : Addr) (a1 : Addr) (h0 : Heap) (n0 : Nat) (Z0 : n0 ≤ h0.size) (hp0 : Exa Z h0 a0 "java/lang/String") (hp1 : Fld Z h0 a0 "java/lang/String" "value" "[B" .null) (hp2 : Fld Z h0 a0 "java/lang/String" "coder" "B" (.int (0 : Int32))) (hp3 : n0 ≤ a0) :
    MetFree l (⟨"java/lang/String", "<init>", "([CIILjava/lang/Void;)V"⟩ : MethodName) (head1 (Jvm.Cond.code (⟨"java/lang/String", "<init>", "([CIILjava/lang/Void;)V"⟩ : MethodName) jdk_42_method_149_code 6 none :: ws) ({ frames := 1, cells := 4, slots := 8, locals := 12 } : Room)) (fun a U => a = #[(.ref a0), (.ref a1), (.int (0 : Int32)), (.int (0 : Int32)), .null] ∧ Z.Warmed39 U.vm ∧ U.heap = h0 ∧ CHv Z consts_1 U.vm h0) (fun _ _ _ _ _ => True) (fun _ U o U' => ∃ v L, o = .returned v ∧ Q_si2_0 Z a0 a1 h0 n0 v U'.heap L ∧ CHr Z consts_1 U.vm U.heap U'.vm U'.heap ∧ ReturnedEndW U o U' L ({ frames := 1, cells := 4, slots := 8, locals := 12 } : Room).cells ({ frames := 1, cells := 4, slots := 8, locals := 12 } : Room).slots) := by
  refine MetFree.of_bodySF (plainFor_of_name pn1) hisR ?_
  intro p e s m args below meth c s₁ Bd hml0 hP hK
  obtain ⟨rfl, hZ, hh, CH⟩ := hP
  have hx := Bd.exec
  have hby := Bd.bytes
  have hml : c.maxLocals = 6 := hml0
  have hown : (s.setVm s.vm).vm.findClass "java/lang/String" = some m.cls := findClass_of_methodNamed Bd.named
  have hnm := (name_of_methodNamed Bd.named Bd.method).1
  have hlk := Bd.notSynchronized
  have hrt := Bd.returns
  have hZ : Z.Warmed39 (s.setVm s.vm).vm := hZ
  have hS : s.Since s.vm h0.size := (State.WarmedH.refl s).since _
  have hkk : h0.size ≤ h0.size := Nat.le_refl _
  have hEL := own_EL hw
  have CR0 : CHr Z consts_1 s.vm s.heap s.vm h0 := by rw [hh]; exact CHr.refl CH
  have X0 : Stand p l e ({ frames := 1, cells := 4, slots := 8, locals := 12 } : Room) (s.setVm s.vm) m #[(.ref a0), (.ref a1), (.int (0 : Int32)), (.int (0 : Int32)), .null] below meth c s₁ [] 0 0 := Stand.of_body Bd
  have e0 : s₁.heap = h0 := by rw [← hh, Bd.state]; rfl
  have N0 := Fr.nil n0
  refine own_cast (P := own_EndW Z consts_1 s (Q_si2_0 Z a0 a1 h0 n0) ({ frames := 1, cells := 4, slots := 8, locals := 12 } : Room).cells ({ frames := 1, cells := 4, slots := 8, locals := 12 } : Room).slots) (ef_si2_0 m a0 a1) ?_
  refine g_aloadN X0 hx hby d_si2_0_0 rfl rfl (rfl : 0 + 1 = 1) ?_
  obtain ⟨T94, X94, e94, st94⟩ := initO X0 hx hZ hown (hw _ (List.mem_of_getElem? (i := 18) rfl)) (hw _ (List.mem_of_getElem? (i := 19) rfl)) (hw _ (List.mem_of_getElem? (i := 20) rfl)) e0 (g := (mkF m 1 #[.val (.ref a0), .val (.ref a1), .val (.int (0 : Int32)), .val (.int (0 : Int32)), .val .null, .unset] [(.ref a0)])) rfl (by rw [hml]; rfl) rfl (hb hby d_si2_0_1) (by decide) (W := 0) (by show 2 * 0 + _ ≤ _; exact Nat.le_of_eq rfl) (by decide)
  refine own_go st94 ?_
  show own_Got p e below _ T94 (mkF m 4 #[.val (.ref a0), .val (.ref a1), .val (.int (0 : Int32)), .val (.int (0 : Int32)), .val .null, .unset] [])
  refine g_iloadN X94 hx hby d_si2_0_4 rfl (rfl : 4 + 1 = 5) ?_
  refine g_ifF X94 hx hby d_si2_0_5 ((if0 _ _).trans (teq (by decide : (0 : Int32) = (0 : Int32))).2) (rfl : 5 + 3 = 8) ?_
  refine g_aloadN X94 hx hby d_si2_0_8 rfl rfl (rfl : 8 + 1 = 9) ?_
  have sf96 : Safe Z consts_1 _ h0 a0 := own_safe_null hZ.alike hp0 hp1
  obtain ⟨b95, T95, h95, k195, d95, k95, X95, e95, E95, hS, hkk95, hZ, hown, A95, fc95, fv95, V95, -, -, C95, -, ns95, st95⟩ := ldcCH X94 hx hZ hown (hw _ (List.mem_of_getElem? (i := 21) rfl)) (own_wS hw) e94 hS hkk hEL (List.mem_of_getElem? (i := 2) rfl) CR0.1 (vs := []) (z := (0 : Int32)) ⟨by decide +kernel, by decide +kernel⟩ (by decide) (by decide) (g := (mkF m 9 #[.val (.ref a0), .val (.ref a1), .val (.int (0 : Int32)), .val (.int (0 : Int32)), .val .null, .unset] [(.ref a0)])) rfl (hb hby d_si2_0_9) (n := 0) (by decide +kernel) (by decide) (by decide) (by decide)
  have Z95 : n0 ≤ h95.size := Nat.le_trans Z0 E95.1
  have K95 : Keep h0 h95 [a0] := (Keep.refl h0 [a0]).ext E95
  have hkk := Nat.le_trans hkk (Nat.le_refl _)
  have CR95 := CHr.trans CR0 (C95)
  have sf97 := CHr.safe C95 hp0.lt sf96
  have hkk := hkk95
  have ns98 := ns95 a0 sf97
  refine own_go st95 ?_
  show own_Got p e below _ T95 (mkF m 11 #[.val (.ref a0), .val (.ref a1), .val (.int (0 : Int32)), .val (.int (0 : Int32)), .val .null, .unset] [(.ref b95), (.ref a0)])
  obtain ⟨T99, X99, e99, st99⟩ := getF X95 hx hZ hown (host := "") (Or.inl (hw _ (List.mem_of_getElem? (i := 27) rfl))) Via.refl e95 fv95 (g := (mkF m 11 #[.val (.ref a0), .val (.ref a1), .val (.int (0 : Int32)), .val (.int (0 : Int32)), .val .null, .unset] [(.ref b95), (.ref a0)])) rfl rfl (hb hby d_si2_0_11)
  refine own_go st99 ?_
  show own_Got p e below _ T99 (mkF m 14 #[.val (.ref a0), .val (.ref a1), .val (.int (0 : Int32)), .val (.int (0 : Int32)), .val .null, .unset] [(.ref d95), (.ref a0)])
  have f100 : Fld Z h95 a0 "java/lang/String" "value" "[B" .null := (Fld.ext E95 hp1)
  have f101 : Exa Z h95 a0 "java/lang/String" := (Exa.ext E95 hp0)
  obtain ⟨T102, h102, X102, e102, W102, st102⟩ := putF X99 hx hZ hown (host := "") (Or.inl (hw _ (List.mem_of_getElem? (i := 27) rfl))) Via.refl e99 f100 f101 (Or.inr ⟨(hw _ (List.mem_of_getElem? (i := 23) rfl)), rfl, hnm⟩) (hw _ (List.mem_of_getElem? (i := 8) rfl)) (ty := (.array .byte)) (by decide) rfl rfl (g := (mkF m 14 #[.val (.ref a0), .val (.ref a1), .val (.int (0 : Int32)), .val (.int (0 : Int32)), .val .null, .unset] [(.ref d95), (.ref a0)])) rfl rfl (hb hby d_si2_0_14)
  have Z102 : n0 ≤ h102.size := Nat.le_trans Z95 (Keep.of_wr W102).1
  have hkk := Nat.le_trans hkk (Keep.of_wr W102).1
  have CR102 := CHr.trans CR95 (CHr.wr W102 sf97 CR95.1)
  have sf103 := Safe.wr W102 sf97 CR95.1 sf97
  have N102 := Fr.snoc X102 N0 hp3
  have K102 : Keep h0 h102 [a0] := K95.wr W102 (Or.inl (List.mem_of_getElem? (i := 0) rfl))
  have f102 : Fld Z h102 a0 "java/lang/String" "value" "[B" (.ref d95) := Fld.same W102 f100
  refine own_go st102 ?_
  show own_Got p e below _ T102 (mkF m 17 #[.val (.ref a0), .val (.ref a1), .val (.int (0 : Int32)), .val (.int (0 : Int32)), .val .null, .unset] [])
  refine g_aloadN X102 hx hby d_si2_0_17 rfl rfl (rfl : 17 + 1 = 18) ?_
  have f105 : Exa Z h102 a0 "java/lang/String" := (Exa.wr W102 f101)
  obtain ⟨b104, T104, h104, k1104, d104, k104, X104, e104, E104, hS, hkk104, hZ, hown, A104, fc104, fv104, V104, -, -, C104, -, ns104, st104⟩ := ldcCH X102 hx hZ hown (hw _ (List.mem_of_getElem? (i := 21) rfl)) (own_wS hw) e102 hS hkk hEL (List.mem_of_getElem? (i := 2) rfl) CR102.1 (vs := []) (z := (0 : Int32)) ⟨by decide +kernel, by decide +kernel⟩ (by decide) (by decide) (g := (mkF m 18 #[.val (.ref a0), .val (.ref a1), .val (.int (0 : Int32)), .val (.int (0 : Int32)), .val .null, .unset] [(.ref a0)])) rfl (hb hby d_si2_0_18) (n := 0) (by decide +kernel) (by decide) (by decide) (by decide)
  have Z104 : n0 ≤ h104.size := Nat.le_trans Z102 E104.1
  have K104 : Keep h0 h104 [a0] := K102.ext E104
  have hkk := Nat.le_trans hkk (Nat.le_refl _)
  have CR104 := CHr.trans CR102 (C104)
  have sf106 := CHr.safe C104 f105.lt sf103
  have hkk := hkk104
  have ns107 := ns104 a0 sf106
  refine own_go st104 ?_
  show own_Got p e below _ T104 (mkF m 20 #[.val (.ref a0), .val (.ref a1), .val (.int (0 : Int32)), .val (.int (0 : Int32)), .val .null, .unset] [(.ref b104), (.ref a0)])
  obtain ⟨T108, X108, e108, st108⟩ := getF X104 hx hZ hown (host := "") (Or.inl (hw _ (List.mem_of_getElem? (i := 28) rfl))) Via.refl e104 fc104 (g := (mkF m 20 #[.val (.ref a0), .val (.ref a1), .val (.int (0 : Int32)), .val (.int (0 : Int32)), .val .null, .unset] [(.ref b104), (.ref a0)])) rfl rfl (hb hby d_si2_0_20)
  refine own_go st108 ?_
  show own_Got p e below _ T108 (mkF m 23 #[.val (.ref a0), .val (.ref a1), .val (.int (0 : Int32)), .val (.int (0 : Int32)), .val .null, .unset] [(.int (0 : Int32)), (.ref a0)])
  have f109 : Fld Z h104 a0 "java/lang/String" "coder" "B" (.int (0 : Int32)) := (Fld.ext E104 (Fld.other W102 (Fld.ext E95 hp2) (Or.inr (slot_ne (Or.inr (hw _ (List.mem_of_getElem? (i := 24) rfl))) (Or.inr (hw _ (List.mem_of_getElem? (i := 23) rfl))) (by decide) (t := .byte) (t' := (.array .byte)) (by decide) (by decide)))))
  have f110 : Exa Z h104 a0 "java/lang/String" := (Exa.ext E104 f105)
  obtain ⟨T111, h111, X111, e111, W111, st111⟩ := putFN X108 hx hZ hown (hw _ (List.mem_of_getElem? (i := 28) rfl)) Via.refl e108 f109 f110 (Or.inr ⟨(hw _ (List.mem_of_getElem? (i := 24) rfl)), rfl, hnm⟩) (hw _ (List.mem_of_getElem? (i := 8) rfl)) (ty := .byte) (v' := (.int (0 : Int32))) (by decide) rfl rfl (g := (mkF m 23 #[.val (.ref a0), .val (.ref a1), .val (.int (0 : Int32)), .val (.int (0 : Int32)), .val .null, .unset] [(.int (0 : Int32)), (.ref a0)])) rfl rfl (hb hby d_si2_0_23)
  have Z111 : n0 ≤ h111.size := Nat.le_trans Z104 (Keep.of_wr W111).1
  have hkk := Nat.le_trans hkk (Keep.of_wr W111).1
  have CR111 := CHr.trans CR104 (CHr.wr W111 sf106 CR104.1)
  have sf112 := Safe.wr W111 sf106 CR104.1 sf106
  have N111 := Fr.snoc X111 N102 hp3
  have K111 : Keep h0 h111 [a0] := K104.wr W111 (Or.inl (List.mem_of_getElem? (i := 0) rfl))
  have f111 : Fld Z h111 a0 "java/lang/String" "coder" "B" (.int (0 : Int32)) := Fld.same W111 f109
  refine own_go st111 ?_
  show own_Got p e below _ T111 (mkF m 26 #[.val (.ref a0), .val (.ref a1), .val (.int (0 : Int32)), .val (.int (0 : Int32)), .val .null, .unset] [])
  have f113 : Exa Z h111 a0 "java/lang/String" := (Exa.wr W111 f110)
  have f114 : Fld Z h111 a0 "java/lang/String" "value" "[B" (.ref d95) := (Fld.other W111 (Fld.ext E104 f102) (Or.inr (slot_ne (Or.inr (hw _ (List.mem_of_getElem? (i := 23) rfl))) (Or.inr (hw _ (List.mem_of_getElem? (i := 24) rfl))) (by decide) (t := (.array .byte)) (t' := .byte) (by decide) (by decide))))
  have f115 : Arv Z h111 d95 k95 .byte (0 : Int32) [] (.int (0 : Int32)) := (Arv.other ((Arv.other V95 W102 (Ne.symm ns98.2)).ext E104) W111 (Ne.symm ns98.2))
  refine own_retVW X111 hx hby hS hkk hZ hEL e111 CR111 hlk hrt d_si2_0_26 (by decide) (by decide) ?_
  show Q_si2_0 Z a0 a1 h0 n0 _ T111.heap _
  rw [e111]
  exact ⟨d95, k95, rfl, N111, K111, f113, f111, f114, f115⟩
theorem d_si1_0_0 : decode jdk_42_method_3_code 0 = .ok (.aload_n 0, 1) := by decide +kernel
theorem d_si1_0_1 : decode jdk_42_method_3_code 1 = .ok (.aload_n 1, 1) := by decide +kernel
theorem d_si1_0_2 : decode jdk_42_method_3_code 2 = .ok (.iconst 0, 1) := by decide +kernel
theorem d_si1_0_3 : decode jdk_42_method_3_code 3 = .ok (.aload_n 1, 1) := by decide +kernel
theorem d_si1_0_4 : decode jdk_42_method_3_code 4 = .ok (.arraylength, 1) := by decide +kernel
theorem d_si1_0_5 : decode jdk_42_method_3_code 5 = .ok (.aconst_null, 1) := by decide +kernel
theorem d_si1_0_6 : decode jdk_42_method_3_code 6 = .ok (.invokespecial 27, 3) := by decide +kernel
theorem d_si1_0_9 : decode jdk_42_method_3_code 9 = .ok (.return_, 1) := by decide +kernel
theorem ef_si1_0 (m : MethodId) (a0 : Addr) (a1 : Addr) : entryFrame m #[(.ref a0), (.ref a1)] 2 = mkF m 0 #[.val (.ref a0), .val (.ref a1)] [] := by first | (simp [entryFrame, mkF, argsToLocals, Value.category]; done) | rfl
def Q_si1_0 (Z : State) (a0 : Addr) (a1 : Addr) (kc : ClassId) (h0 : Heap) (n0 : Nat) (v : Option Value) (h : Heap) (L : List Loc) : Prop := ∃ (ob : Addr), ∃ (kb : ClassId), v = none ∧ Fr n0 L ∧ Keep h0 h [a0] ∧ Exa Z h a0 "java/lang/String" ∧ Fld Z h a0 "java/lang/String" "coder" "B" (.int (0 : Int32)) ∧ Fld Z h a0 "java/lang/String" "value" "[B" (.ref ob) ∧ Arv Z h ob kb .byte (0 : Int32) [] (.int (0 : Int32))
set_option maxRecDepth 65536 in
set_option maxHeartbeats 40000000 in
theorem rm_si1_0 (l : Launch) (Z : State) (aT : Array Value) (hw : ∀ d ∈ tables_1, d.before aT Z = true) (ws : List Jvm.Cond) (a0 : Addr) (a1 : Addr) (kc : ClassId) (h0 : Heap) (n0 : Nat) (Z0 : n0 ≤ h0.size) (hp0 : Exa Z h0 a0 "java/lang/String") (hp1 : Fld Z h0 a0 "java/lang/String" "value" "[B" .null) (hp2 : Fld Z h0 a0 "java/lang/String" "coder" "B" (.int (0 : Int32))) (hp3 : n0 ≤ a0) (hp4 : Arv Z h0 a1 kc .char (0 : Int32) [] (.int (0 : Int32))) :
    MetFree l (⟨"java/lang/String", "<init>", "([C)V"⟩ : MethodName) (head1 (Jvm.Cond.code (⟨"java/lang/String", "<init>", "([C)V"⟩ : MethodName) jdk_42_method_3_code 2 none :: ws) ({ frames := 2, cells := 4, slots := 8, locals := 29 } : Room)) (fun a U => a = #[(.ref a0), (.ref a1)] ∧ Z.Warmed39 U.vm ∧ U.heap = h0 ∧ CHv Z consts_1 U.vm h0) (fun _ _ _ _ _ => True) (fun _ U o U' => ∃ v L, o = .returned v ∧ Q_si1_0 Z a0 a1 kc h0 n0 v U'.heap L ∧ CHr Z consts_1 U.vm U.heap U'.vm U'.heap ∧ ReturnedEndW U o U' L ({ frames := 2, cells := 4, slots := 8, locals := 29 } : Room).cells ({ frames := 2, cells := 4, slots := 8, locals := 29 } : Room).slots) := by
  refine MetFree.of_bodySF (plainFor_of_name pn1) hisR ?_
  intro p e s m args below meth c s₁ Bd hml0 hP hK
  obtain ⟨rfl, hZ, hh, CH⟩ := hP
  have hx := Bd.exec
  have hby := Bd.bytes
  have hml : c.maxLocals = 2 := hml0
  have hown : (s.setVm s.vm).vm.findClass "java/lang/String" = some m.cls := findClass_of_methodNamed Bd.named
  have hnm := (name_of_methodNamed Bd.named Bd.method).1
  have hlk := Bd.notSynchronized
  have hrt := Bd.returns
  have hZ : Z.Warmed39 (s.setVm s.vm).vm := hZ
  have hS : s.Since s.vm h0.size := (State.WarmedH.refl s).since _
  have hkk : h0.size ≤ h0.size := Nat.le_refl _
  have hEL := own_EL hw
  have CR0 : CHr Z consts_1 s.vm s.heap s.vm h0 := by rw [hh]; exact CHr.refl CH
  have X0 : Stand p l e ({ frames := 2, cells := 4, slots := 8, locals := 29 } : Room) (s.setVm s.vm) m #[(.ref a0), (.ref a1)] below meth c s₁ [] 0 0 := Stand.of_body Bd
  have e0 : s₁.heap = h0 := by rw [← hh, Bd.state]; rfl
  have N0 := Fr.nil n0
  refine own_cast (P := own_EndW Z consts_1 s (Q_si1_0 Z a0 a1 kc h0 n0) ({ frames := 2, cells := 4, slots := 8, locals := 29 } : Room).cells ({ frames := 2, cells := 4, slots := 8, locals := 29 } : Room).slots) (ef_si1_0 m a0 a1) ?_
  refine g_aloadN X0 hx hby d_si1_0_0 rfl rfl (rfl : 0 + 1 = 1) ?_
  refine g_aloadN X0 hx hby d_si1_0_1 rfl rfl (rfl : 1 + 1 = 2) ?_
  refine g_iconst X0 hx hby (0 : Int32) d_si1_0_2 (by decide) (rfl : 2 + 1 = 3) ?_
  refine g_aloadN X0 hx hby d_si1_0_3 rfl rfl (rfl : 3 + 1 = 4) ?_
  refine g_alen X0 hx hby hZ e0 hp4 d_si1_0_4 (rfl : 4 + 1 = 5) ?_
  refine g_anull X0 hx hby d_si1_0_5 (rfl : 5 + 1 = 6) ?_
  have sf117 : Safe Z consts_1 _ h0 a0 := own_safe_null hZ.alike hp0 hp1
  obtain ⟨_, _, ⟨T116, L116, k116, n116⟩, -, X116, S2116, gr116, ⟨Lc116, hQ116, l116, y116, z116, C116⟩, st116⟩ := X0.specialBackS hx (y := (⟨"java/lang/String", "<init>", "([CIILjava/lang/Void;)V"⟩ : MethodName)) rfl hown (mvT hZ (hw _ (List.mem_of_getElem? (i := 14) rfl))) (mvT hZ (hw _ (List.mem_of_getElem? (i := 15) rfl))) (mvT hZ (hw _ (List.mem_of_getElem? (i := 17) rfl))) (by decide) (backOfSH (W := 0) (rm_si2_0 l Z aT hw [] a0 a1 h0 n0 Z0 hp0 hp1 hp2 hp3) hZ (hw _ (List.mem_of_getElem? (i := 17) rfl)) (hw _ (List.mem_of_getElem? (i := 9) rfl)) (by decide) (by decide) hEL CR0.1) (g := (mkF m 6 #[.val (.ref a0), .val (.ref a1)] [.null, (.int (0 : Int32)), (.int (0 : Int32)), (.ref a1), (.ref a0)])) rfl (by rw [hml]; rfl) (Steps.refl _) (a := a0) (argsL := [(.ref a1), (.int (0 : Int32)), (.int (0 : Int32)), .null]) (rest := []) (lenOf pd3 rfl) rfl (by show 2 * 0 + _ ≤ _; exact Nat.le_of_eq rfl) (hb hby d_si1_0_6) (fun _ _ => ⟨rfl, e0, (by decide : 0 + 4 ≤ _), (by decide : 0 + 8 ≤ _)⟩)
  dsimp only [Pt.U, Pt.locs, Pt.cells, Pt.slots] at X116 l116 y116 z116 st116 hQ116 C116 S2116 gr116
  subst l116 y116 z116
  obtain ⟨X116, hS, hZ, hown⟩ := rebS hS (Nat.le_trans hkk (Nat.le_of_eq (congrArg Array.size e0.symm))) X116 S2116 gr116 hZ hown
  obtain ⟨ob_116, kb_116, rfl, N116q, K116, q116_0, q116_1, q116_2, q116_3⟩ := hQ116
  have N116 := Fr.app N0 N116q
  have Z116 : n0 ≤ T116.heap.size := Nat.le_trans Z0 K116.1
  have hkk := Nat.le_trans hkk (Nat.le_refl _)
  have CR116 := CHr.trans CR0 (C116)
  have sf118 := CHr.safe C116 hp0.lt sf117
  have hkk := Nat.le_refl (T116.heap.size)
  have KC116 : Keep h0 T116.heap [a0] := (Keep.refl h0 [a0]).trans K116 (allS (Or.inl (List.mem_of_getElem? (i := 0) rfl)) all0)
  have ne119 : a0 ≠ ob_116 := Exa.neArv q116_0 q116_3 (hw _ (List.mem_of_getElem? (i := 8) rfl))
  refine own_tr st116 ?_
  show own_Got p e below _ T116 (mkF m 9 #[.val (.ref a0), .val (.ref a1)] [])
  refine own_retVW X116 hx hby hS hkk hZ hEL rfl CR116 hlk hrt d_si1_0_9 (by decide) (by decide) ?_
  show Q_si1_0 Z a0 a1 kc h0 n0 _ T116.heap _
  exact ⟨ob_116, kb_116, rfl, N116, KC116, q116_0, q116_1, q116_2, q116_3⟩
theorem d_str_0 : decode method_3_code 0 = .ok (.iload_n 0, 1) := by decide +kernel
theorem d_str_1 : decode method_3_code 1 = .ok (.bipush 24, 2) := by decide +kernel
theorem d_str_3 : decode method_3_code 3 = .ok (.iushr, 1) := by decide +kernel
theorem d_str_4 : decode method_3_code 4 = .ok (.iconst 3, 1) := by decide +kernel
theorem d_str_5 : decode method_3_code 5 = .ok (.iand, 1) := by decide +kernel
theorem d_str_6 : decode method_3_code 6 = .ok (.istore_n 1, 1) := by decide +kernel
theorem d_str_7 : decode method_3_code 7 = .ok (.iload_n 0, 1) := by decide +kernel
theorem d_str_8 : decode method_3_code 8 = .ok (.sipush 255, 3) := by decide +kernel
theorem d_str_11 : decode method_3_code 11 = .ok (.iand, 1) := by decide +kernel
theorem d_str_12 : decode method_3_code 12 = .ok (.i2c, 1) := by decide +kernel
theorem d_str_13 : decode method_3_code 13 = .ok (.istore_n 2, 1) := by decide +kernel
theorem d_str_14 : decode method_3_code 14 = .ok (.iload_n 0, 1) := by decide +kernel
theorem d_str_15 : decode method_3_code 15 = .ok (.bipush 8, 2) := by decide +kernel
theorem d_str_17 : decode method_3_code 17 = .ok (.iushr, 1) := by decide +kernel
theorem d_str_18 : decode method_3_code 18 = .ok (.sipush 255, 3) := by decide +kernel
theorem d_str_21 : decode method_3_code 21 = .ok (.iand, 1) := by decide +kernel
theorem d_str_22 : decode method_3_code 22 = .ok (.i2c, 1) := by decide +kernel
theorem d_str_23 : decode method_3_code 23 = .ok (.istore_n 3, 1) := by decide +kernel
theorem d_str_24 : decode method_3_code 24 = .ok (.iload_n 0, 1) := by decide +kernel
theorem d_str_25 : decode method_3_code 25 = .ok (.bipush 16, 2) := by decide +kernel
theorem d_str_27 : decode method_3_code 27 = .ok (.iushr, 1) := by decide +kernel
theorem d_str_28 : decode method_3_code 28 = .ok (.sipush 255, 3) := by decide +kernel
theorem d_str_31 : decode method_3_code 31 = .ok (.iand, 1) := by decide +kernel
theorem d_str_32 : decode method_3_code 32 = .ok (.i2c, 1) := by decide +kernel
theorem d_str_33 : decode method_3_code 33 = .ok (.istore 4, 2) := by decide +kernel
theorem d_str_35 : decode method_3_code 35 = .ok (.iload_n 1, 1) := by decide +kernel
theorem d_str_36 : decode method_3_code 36 = .ok (.ifCond .ne 14, 3) := by decide +kernel
theorem d_str_39 : decode method_3_code 39 = .ok (.new 30, 3) := by decide +kernel
theorem d_str_42 : decode method_3_code 42 = .ok (.dup, 1) := by decide +kernel
theorem d_str_43 : decode method_3_code 43 = .ok (.iconst 0, 1) := by decide +kernel
theorem d_str_44 : decode method_3_code 44 = .ok (.newarray .char, 2) := by decide +kernel
theorem d_str_46 : decode method_3_code 46 = .ok (.invokespecial 32, 3) := by decide +kernel
theorem d_str_49 : decode method_3_code 49 = .ok (.areturn, 1) := by decide +kernel
theorem d_str_50 : decode method_3_code 50 = .ok (.iload_n 1, 1) := by decide +kernel
theorem d_str_51 : decode method_3_code 51 = .ok (.iconst 1, 1) := by decide +kernel
theorem d_str_52 : decode method_3_code 52 = .ok (.if_icmp .ne 18, 3) := by decide +kernel
theorem d_str_55 : decode method_3_code 55 = .ok (.new 30, 3) := by decide +kernel
theorem d_str_58 : decode method_3_code 58 = .ok (.dup, 1) := by decide +kernel
theorem d_str_59 : decode method_3_code 59 = .ok (.iconst 1, 1) := by decide +kernel
theorem d_str_60 : decode method_3_code 60 = .ok (.newarray .char, 2) := by decide +kernel
theorem d_str_62 : decode method_3_code 62 = .ok (.dup, 1) := by decide +kernel
theorem d_str_63 : decode method_3_code 63 = .ok (.iconst 0, 1) := by decide +kernel
theorem d_str_64 : decode method_3_code 64 = .ok (.iload_n 2, 1) := by decide +kernel
theorem d_str_65 : decode method_3_code 65 = .ok (.castore, 1) := by decide +kernel
theorem d_str_66 : decode method_3_code 66 = .ok (.invokespecial 32, 3) := by decide +kernel
theorem d_str_69 : decode method_3_code 69 = .ok (.areturn, 1) := by decide +kernel
theorem d_str_70 : decode method_3_code 70 = .ok (.iload_n 1, 1) := by decide +kernel
theorem d_str_71 : decode method_3_code 71 = .ok (.iconst 2, 1) := by decide +kernel
theorem d_str_72 : decode method_3_code 72 = .ok (.if_icmp .ne 22, 3) := by decide +kernel
theorem d_str_75 : decode method_3_code 75 = .ok (.new 30, 3) := by decide +kernel
theorem d_str_78 : decode method_3_code 78 = .ok (.dup, 1) := by decide +kernel
theorem d_str_79 : decode method_3_code 79 = .ok (.iconst 2, 1) := by decide +kernel
theorem d_str_80 : decode method_3_code 80 = .ok (.newarray .char, 2) := by decide +kernel
theorem d_str_82 : decode method_3_code 82 = .ok (.dup, 1) := by decide +kernel
theorem d_str_83 : decode method_3_code 83 = .ok (.iconst 0, 1) := by decide +kernel
theorem d_str_84 : decode method_3_code 84 = .ok (.iload_n 2, 1) := by decide +kernel
theorem d_str_85 : decode method_3_code 85 = .ok (.castore, 1) := by decide +kernel
theorem d_str_86 : decode method_3_code 86 = .ok (.dup, 1) := by decide +kernel
theorem d_str_87 : decode method_3_code 87 = .ok (.iconst 1, 1) := by decide +kernel
theorem d_str_88 : decode method_3_code 88 = .ok (.iload_n 3, 1) := by decide +kernel
theorem d_str_89 : decode method_3_code 89 = .ok (.castore, 1) := by decide +kernel
theorem d_str_90 : decode method_3_code 90 = .ok (.invokespecial 32, 3) := by decide +kernel
theorem d_str_93 : decode method_3_code 93 = .ok (.areturn, 1) := by decide +kernel
theorem d_str_94 : decode method_3_code 94 = .ok (.new 30, 3) := by decide +kernel
theorem d_str_97 : decode method_3_code 97 = .ok (.dup, 1) := by decide +kernel
theorem d_str_98 : decode method_3_code 98 = .ok (.iconst 3, 1) := by decide +kernel
theorem d_str_99 : decode method_3_code 99 = .ok (.newarray .char, 2) := by decide +kernel
theorem d_str_101 : decode method_3_code 101 = .ok (.dup, 1) := by decide +kernel
theorem d_str_102 : decode method_3_code 102 = .ok (.iconst 0, 1) := by decide +kernel
theorem d_str_103 : decode method_3_code 103 = .ok (.iload_n 2, 1) := by decide +kernel
theorem d_str_104 : decode method_3_code 104 = .ok (.castore, 1) := by decide +kernel
theorem d_str_105 : decode method_3_code 105 = .ok (.dup, 1) := by decide +kernel
theorem d_str_106 : decode method_3_code 106 = .ok (.iconst 1, 1) := by decide +kernel
theorem d_str_107 : decode method_3_code 107 = .ok (.iload_n 3, 1) := by decide +kernel
theorem d_str_108 : decode method_3_code 108 = .ok (.castore, 1) := by decide +kernel
theorem d_str_109 : decode method_3_code 109 = .ok (.dup, 1) := by decide +kernel
theorem d_str_110 : decode method_3_code 110 = .ok (.iconst 2, 1) := by decide +kernel
theorem d_str_111 : decode method_3_code 111 = .ok (.iload 4, 2) := by decide +kernel
theorem d_str_113 : decode method_3_code 113 = .ok (.castore, 1) := by decide +kernel
theorem d_str_114 : decode method_3_code 114 = .ok (.invokespecial 32, 3) := by decide +kernel
theorem d_str_117 : decode method_3_code 117 = .ok (.areturn, 1) := by decide +kernel
theorem pn2 : plainName "com/example/forcon/forcon/model/PermissionEqualsPinLaw" = true := by first | (simp [plainName, overriddenIn]; done) | decide +kernel
theorem pd4 : parseMethodDescriptor "([C)V" = some ⟨[(.array .char)], none⟩ := by decide +kernel
theorem ef_str (m : MethodId) (x : Int32) : entryFrame m #[(.int x)] 5 = mkF m 0 #[.val (.int x), .unset, .unset, .unset, .unset] [] := by first | (simp [entryFrame, mkF, argsToLocals, Value.category]; done) | rfl
def Q_str (Z : State) (x : Int32) (g1 : Int32) (h0 : Heap) (n0 : Nat) (v : Option Value) (h : Heap) (L : List Loc) : Prop := ∃ (os : Addr), ∃ (ob : Addr), ∃ (kb : ClassId), ∃ (n : Int32), ∃ (vs : List Value), v = some (.ref os) ∧ Fr n0 L ∧ Keep h0 h [] ∧ h0.size ≤ os ∧ Exa Z h os "java/lang/String" ∧ Fld Z h os "java/lang/String" "coder" "B" (.int (0 : Int32)) ∧ Fld Z h os "java/lang/String" "value" "[B" (.ref ob) ∧ Arv Z h ob kb .byte n vs (.int (0 : Int32)) ∧ own_st x n vs
set_option maxRecDepth 65536 in
set_option maxHeartbeats 40000000 in
theorem rm_str (l : Launch) (Z : State) (aT : Array Value) (hw : ∀ d ∈ tables_1, d.before aT Z = true) (ws : List Jvm.Cond) (x : Int32) (g1 : Int32) (h0 : Heap) (n0 : Nat) (Z0 : n0 ≤ h0.size) (hp0 : Sta Z h0 "java/lang/String" "COMPACT_STRINGS" "Z" (.int g1)) (hg1 : ¬ (g1 = (0 : Int32))) :
    MetFree l (⟨"com/example/forcon/forcon/model/PermissionEqualsPinLaw", "str", "(I)Ljava/lang/String;"⟩ : MethodName) (head1 (Jvm.Cond.code (⟨"com/example/forcon/forcon/model/PermissionEqualsPinLaw", "str", "(I)Ljava/lang/String;"⟩ : MethodName) method_3_code 5 (some (.object "java/lang/String")) :: ws) ({ frames := 4, cells := 6, slots := 12, locals := 66 } : Room)) (fun a U => a = #[(.int x)] ∧ Z.Warmed39 U.vm ∧ U.heap = h0 ∧ CHv Z consts_1 U.vm h0) (fun _ _ _ _ _ => True) (fun _ U o U' => ∃ v L, o = .returned v ∧ Q_str Z x g1 h0 n0 v U'.heap L ∧ CHr Z consts_1 U.vm U.heap U'.vm U'.heap ∧ ReturnedEndW U o U' L ({ frames := 4, cells := 6, slots := 12, locals := 66 } : Room).cells ({ frames := 4, cells := 6, slots := 12, locals := 66 } : Room).slots) := by
  refine MetFree.of_bodySF (plainFor_of_name pn2) hisR ?_
  intro p e s m args below meth c s₁ Bd hml0 hP hK
  obtain ⟨rfl, hZ, hh, CH⟩ := hP
  have hx := Bd.exec
  have hby := Bd.bytes
  have hml : c.maxLocals = 5 := hml0
  have hown : (s.setVm s.vm).vm.findClass "com/example/forcon/forcon/model/PermissionEqualsPinLaw" = some m.cls := findClass_of_methodNamed Bd.named
  have hnm := (name_of_methodNamed Bd.named Bd.method).1
  have hlk := Bd.notSynchronized
  have hrt := Bd.returns
  have hZ : Z.Warmed39 (s.setVm s.vm).vm := hZ
  have hS : s.Since s.vm h0.size := (State.WarmedH.refl s).since _
  have hkk : h0.size ≤ h0.size := Nat.le_refl _
  have hEL := own_EL hw
  have CR0 : CHr Z consts_1 s.vm s.heap s.vm h0 := by rw [hh]; exact CHr.refl CH
  have X0 : Stand p l e ({ frames := 4, cells := 6, slots := 12, locals := 66 } : Room) (s.setVm s.vm) m #[(.int x)] below meth c s₁ [] 0 0 := Stand.of_body Bd
  have e0 : s₁.heap = h0 := by rw [← hh, Bd.state]; rfl
  have N0 := Fr.nil n0
  refine own_cast (P := own_EndW Z consts_1 s (Q_str Z x g1 h0 n0) ({ frames := 4, cells := 6, slots := 12, locals := 66 } : Room).cells ({ frames := 4, cells := 6, slots := 12, locals := 66 } : Room).slots) (ef_str m x) ?_
  refine g_iloadN X0 hx hby d_str_0 rfl (rfl : 0 + 1 = 1) ?_
  refine g_bipush X0 hx hby (24 : Int32) d_str_1 (by decide) (rfl : 1 + 2 = 3) ?_
  refine g_iushr X0 hx hby d_str_3 (rfl : 3 + 1 = 4) ?_
  refine g_iconst X0 hx hby (3 : Int32) d_str_4 (by decide) (rfl : 4 + 1 = 5) ?_
  refine g_iand X0 hx hby d_str_5 (rfl : 5 + 1 = 6) ?_
  refine g_istoreN X0 hx hby #[.val (.int x), .val (.int (((x.toUInt32 >>> ((24 : Int32) &&& 31).toUInt32).toInt32) &&& (3 : Int32))), .unset, .unset, .unset] d_str_6 rfl (rfl : 6 + 1 = 7) ?_
  refine g_iloadN X0 hx hby d_str_7 rfl (rfl : 7 + 1 = 8) ?_
  refine g_sipush X0 hx hby (255 : Int32) d_str_8 (by decide) (rfl : 8 + 3 = 11) ?_
  refine g_iand X0 hx hby d_str_11 (rfl : 11 + 1 = 12) ?_
  refine g_i2c X0 hx hby d_str_12 (rfl : 12 + 1 = 13) ?_
  refine g_istoreN X0 hx hby #[.val (.int x), .val (.int (((x.toUInt32 >>> ((24 : Int32) &&& 31).toUInt32).toInt32) &&& (3 : Int32))), .val (.int ((x &&& (255 : Int32)).toUInt32.toUInt16.toUInt32.toInt32)), .unset, .unset] d_str_13 rfl (rfl : 13 + 1 = 14) ?_
  refine g_iloadN X0 hx hby d_str_14 rfl (rfl : 14 + 1 = 15) ?_
  refine g_bipush X0 hx hby (8 : Int32) d_str_15 (by decide) (rfl : 15 + 2 = 17) ?_
  refine g_iushr X0 hx hby d_str_17 (rfl : 17 + 1 = 18) ?_
  refine g_sipush X0 hx hby (255 : Int32) d_str_18 (by decide) (rfl : 18 + 3 = 21) ?_
  refine g_iand X0 hx hby d_str_21 (rfl : 21 + 1 = 22) ?_
  refine g_i2c X0 hx hby d_str_22 (rfl : 22 + 1 = 23) ?_
  refine g_istoreN X0 hx hby #[.val (.int x), .val (.int (((x.toUInt32 >>> ((24 : Int32) &&& 31).toUInt32).toInt32) &&& (3 : Int32))), .val (.int ((x &&& (255 : Int32)).toUInt32.toUInt16.toUInt32.toInt32)), .val (.int ((((x.toUInt32 >>> ((8 : Int32) &&& 31).toUInt32).toInt32) &&& (255 : Int32)).toUInt32.toUInt16.toUInt32.toInt32)), .unset] d_str_23 rfl (rfl : 23 + 1 = 24) ?_
  refine g_iloadN X0 hx hby d_str_24 rfl (rfl : 24 + 1 = 25) ?_
  refine g_bipush X0 hx hby (16 : Int32) d_str_25 (by decide) (rfl : 25 + 2 = 27) ?_
  refine g_iushr X0 hx hby d_str_27 (rfl : 27 + 1 = 28) ?_
  refine g_sipush X0 hx hby (255 : Int32) d_str_28 (by decide) (rfl : 28 + 3 = 31) ?_
  refine g_iand X0 hx hby d_str_31 (rfl : 31 + 1 = 32) ?_
  refine g_i2c X0 hx hby d_str_32 (rfl : 32 + 1 = 33) ?_
  refine g_istore X0 hx hby #[.val (.int x), .val (.int (((x.toUInt32 >>> ((24 : Int32) &&& 31).toUInt32).toInt32) &&& (3 : Int32))), .val (.int ((x &&& (255 : Int32)).toUInt32.toUInt16.toUInt32.toInt32)), .val (.int ((((x.toUInt32 >>> ((8 : Int32) &&& 31).toUInt32).toInt32) &&& (255 : Int32)).toUInt32.toUInt16.toUInt32.toInt32)), .val (.int ((((x.toUInt32 >>> ((16 : Int32) &&& 31).toUInt32).toInt32) &&& (255 : Int32)).toUInt32.toUInt16.toUInt32.toInt32))] d_str_33 rfl (rfl : 33 + 2 = 35) ?_
  rcases own_Lc' x with hk120 | hk120 | hk120 | hk120
  · rw [hk120]
    refine g_iloadN X0 hx hby d_str_35 rfl (rfl : 35 + 1 = 36) ?_
    refine g_ifF X0 hx hby d_str_36 ((if0 _ _).trans (teq (by decide : (0 : Int32) = (0 : Int32))).2) (rfl : 36 + 3 = 39) ?_
    obtain ⟨T121, h121, X121, e121, E121, A121, D121, -, st121⟩ := newO X0 hx hZ hown (hw _ (List.mem_of_getElem? (i := 7) rfl)) (hw _ (List.mem_of_getElem? (i := 8) rfl)) (hw _ (List.mem_of_getElem? (i := 9) rfl)) e0 (g := (mkF m 39 #[.val (.int x), .val (.int (0 : Int32)), .val (.int ((x &&& (255 : Int32)).toUInt32.toUInt16.toUInt32.toInt32)), .val (.int ((((x.toUInt32 >>> ((8 : Int32) &&& 31).toUInt32).toInt32) &&& (255 : Int32)).toUInt32.toUInt16.toUInt32.toInt32)), .val (.int ((((x.toUInt32 >>> ((16 : Int32) &&& 31).toUInt32).toInt32) &&& (255 : Int32)).toUInt32.toUInt16.toUInt32.toInt32))] [])) rfl (hb hby d_str_39) (by decide) (by decide)
    obtain ⟨b121, g121⟩ : ∃ z, z = h0.size := ⟨_, rfl⟩
    rw [← g121] at A121 D121 st121
    have Z121 : n0 ≤ h121.size := Nat.le_trans Z0 E121.1
    have hkk := Nat.le_trans hkk E121.1
    have CR121 := CHr.trans CR0 (CHr.ext E121 CR0.1)
    have K121 : Keep h0 h121 [] := (Keep.refl h0 []).ext E121
    have sf122 := Safe.ext E121 CR0.1 (Safe.new (Nat.le_of_eq g121.symm))
    have ge121 : n0 ≤ b121 := Nat.le_trans Z0 (Nat.le_of_eq g121.symm)
    have sz121 : h0.size ≤ b121 := Nat.le_trans (Keep.refl h0 []).1 (Nat.le_of_eq g121.symm)
    have f123 : Fld Z h121 b121 "java/lang/String" "value" "[B" .null := D121 (Or.inr (hw _ (List.mem_of_getElem? (i := 23) rfl))) (ty := (.array .byte)) (by decide)
    have f124 : Fld Z h121 b121 "java/lang/String" "coder" "B" (.int (0 : Int32)) := D121 (Or.inr (hw _ (List.mem_of_getElem? (i := 24) rfl))) (ty := .byte) (by decide)
    refine own_go st121 ?_
    show own_Got p e below _ T121 (mkF m 42 #[.val (.int x), .val (.int (0 : Int32)), .val (.int ((x &&& (255 : Int32)).toUInt32.toUInt16.toUInt32.toInt32)), .val (.int ((((x.toUInt32 >>> ((8 : Int32) &&& 31).toUInt32).toInt32) &&& (255 : Int32)).toUInt32.toUInt16.toUInt32.toInt32)), .val (.int ((((x.toUInt32 >>> ((16 : Int32) &&& 31).toUInt32).toInt32) &&& (255 : Int32)).toUInt32.toUInt16.toUInt32.toInt32))] [(.ref b121)])
    refine g_dup X121 hx hby d_str_42 rfl (rfl : 42 + 1 = 43) ?_
    refine g_iconst X121 hx hby (0 : Int32) d_str_43 (by decide) (rfl : 43 + 1 = 44) ?_
    obtain ⟨T125, h125, k125, X125, e125, E125, A125, B125, st125⟩ := newPE X121 hx hZ (hw _ (List.mem_of_getElem? (i := 10) rfl)) e121 (g := (mkF m 44 #[.val (.int x), .val (.int (0 : Int32)), .val (.int ((x &&& (255 : Int32)).toUInt32.toUInt16.toUInt32.toInt32)), .val (.int ((((x.toUInt32 >>> ((8 : Int32) &&& 31).toUInt32).toInt32) &&& (255 : Int32)).toUInt32.toUInt16.toUInt32.toInt32)), .val (.int ((((x.toUInt32 >>> ((16 : Int32) &&& 31).toUInt32).toInt32) &&& (255 : Int32)).toUInt32.toUInt16.toUInt32.toInt32))] [(.int (0 : Int32)), (.ref b121), (.ref b121)])) rfl (hb hby d_str_44) rfl (by decide) (cap := 0) (by decide) (by decide) (by decide) (by decide) (ad := "[C") (by decide +kernel)
    obtain ⟨b125, g125⟩ : ∃ z, z = h121.size := ⟨_, rfl⟩
    rw [← g125] at A125 B125 st125
    have ne126 : b121 ≠ b125 := Nat.ne_of_lt (Nat.lt_of_lt_of_le (A121).lt (Nat.le_of_eq g125.symm))
    have Z125 : n0 ≤ h125.size := Nat.le_trans Z121 E125.1
    have hkk := Nat.le_trans hkk E125.1
    have CR125 := CHr.trans CR121 (CHr.ext E125 CR121.1)
    have sf127 := Safe.ext E125 CR121.1 sf122
    have K125 : Keep h0 h125 [] := K121.ext E125
    have sf128 := Safe.ext E125 CR121.1 (Safe.new (Nat.le_of_eq g125.symm))
    have ge125 : n0 ≤ b125 := Nat.le_trans Z121 (Nat.le_of_eq g125.symm)
    have sz125 : h0.size ≤ b125 := Nat.le_trans K121.1 (Nat.le_of_eq g125.symm)
    have V125 : Arv Z h125 b125 k125 .char (0 : Int32) [] (.int (0 : Int32)) := (Arv.new A125 (by decide)).pad (pad_rep [] _ 0)
    refine own_go st125 ?_
    show own_Got p e below _ T125 (mkF m 46 #[.val (.int x), .val (.int (0 : Int32)), .val (.int ((x &&& (255 : Int32)).toUInt32.toUInt16.toUInt32.toInt32)), .val (.int ((((x.toUInt32 >>> ((8 : Int32) &&& 31).toUInt32).toInt32) &&& (255 : Int32)).toUInt32.toUInt16.toUInt32.toInt32)), .val (.int ((((x.toUInt32 >>> ((16 : Int32) &&& 31).toUInt32).toInt32) &&& (255 : Int32)).toUInt32.toUInt16.toUInt32.toInt32))] [(.ref b125), (.ref b121), (.ref b121)])
    have f130 : Exa Z h125 b121 "java/lang/String" := (Exa.ext E125 A121)
    have f131 : Fld Z h125 b121 "java/lang/String" "value" "[B" .null := (Fld.ext E125 f123)
    have f132 : Fld Z h125 b121 "java/lang/String" "coder" "B" (.int (0 : Int32)) := (Fld.ext E125 f124)
    obtain ⟨_, _, ⟨T129, L129, k129, n129⟩, -, X129, S2129, gr129, ⟨Lc129, hQ129, l129, y129, z129, C129⟩, st129⟩ := X125.specialBackS hx (y := (⟨"java/lang/String", "<init>", "([C)V"⟩ : MethodName)) rfl hown (mvT hZ (hw _ (List.mem_of_getElem? (i := 11) rfl))) (mvT hZ (hw _ (List.mem_of_getElem? (i := 12) rfl))) (mvT hZ (hw _ (List.mem_of_getElem? (i := 13) rfl))) (by decide) (backOfSH (W := 1) (rm_si1_0 l Z aT hw [] b121 b125 k125 h125 n0 Z125 f130 f131 f132 ge121 V125) hZ (hw _ (List.mem_of_getElem? (i := 13) rfl)) (hw _ (List.mem_of_getElem? (i := 9) rfl)) (by decide) (by decide) hEL CR125.1) (g := (mkF m 46 #[.val (.int x), .val (.int (0 : Int32)), .val (.int ((x &&& (255 : Int32)).toUInt32.toUInt16.toUInt32.toInt32)), .val (.int ((((x.toUInt32 >>> ((8 : Int32) &&& 31).toUInt32).toInt32) &&& (255 : Int32)).toUInt32.toUInt16.toUInt32.toInt32)), .val (.int ((((x.toUInt32 >>> ((16 : Int32) &&& 31).toUInt32).toInt32) &&& (255 : Int32)).toUInt32.toUInt16.toUInt32.toInt32))] [(.ref b125), (.ref b121), (.ref b121)])) rfl (by rw [hml]; rfl) (Steps.refl _) (a := b121) (argsL := [(.ref b125)]) (rest := [(.ref b121)]) (lenOf pd4 rfl) rfl (by show 2 * 0 + _ ≤ _; exact Nat.le_of_eq rfl) (hb hby d_str_46) (fun _ _ => ⟨rfl, e125, (by decide : 2 + 4 ≤ _), (by decide : 4 + 8 ≤ _)⟩)
    dsimp only [Pt.U, Pt.locs, Pt.cells, Pt.slots] at X129 l129 y129 z129 st129 hQ129 C129 S2129 gr129
    subst l129 y129 z129
    obtain ⟨X129, hS, hZ, hown⟩ := rebS hS (Nat.le_trans hkk (Nat.le_of_eq (congrArg Array.size e125.symm))) X129 S2129 gr129 hZ hown
    obtain ⟨ob_129, kb_129, rfl, N129q, K129, q129_0, q129_1, q129_2, q129_3⟩ := hQ129
    have N129 := Fr.app N0 N129q
    have Z129 : n0 ≤ T129.heap.size := Nat.le_trans Z125 K129.1
    have hkk := Nat.le_trans hkk (Nat.le_refl _)
    have CR129 := CHr.trans CR125 (C129)
    have sf133 := CHr.safe C129 f130.lt sf127
    have sf134 := CHr.safe C129 B125.lt sf128
    have hkk := Nat.le_refl (T129.heap.size)
    have KC129 : Keep h0 T129.heap [] := K125.trans K129 (allS (Or.inr sz121) all0)
    have ne135 : b121 ≠ ob_129 := Exa.neArv q129_0 q129_3 (hw _ (List.mem_of_getElem? (i := 8) rfl))
    refine own_tr st129 ?_
    show own_Got p e below _ T129 (mkF m 49 #[.val (.int x), .val (.int (0 : Int32)), .val (.int ((x &&& (255 : Int32)).toUInt32.toUInt16.toUInt32.toInt32)), .val (.int ((((x.toUInt32 >>> ((8 : Int32) &&& 31).toUInt32).toInt32) &&& (255 : Int32)).toUInt32.toUInt16.toUInt32.toInt32)), .val (.int ((((x.toUInt32 >>> ((16 : Int32) &&& 31).toUInt32).toInt32) &&& (255 : Int32)).toUInt32.toUInt16.toUInt32.toInt32))] [(.ref b121)])
    have o136 : own_st x (0 : Int32) [] := Or.inl ⟨hk120, rfl, rfl⟩
    refine own_retRW X129 hx hby hS hkk hZ hEL rfl CR129 hlk hrt rfl d_str_49 (by decide) (by decide) rfl ?_
    show Q_str Z x g1 h0 n0 _ T129.heap _
    exact ⟨b121, ob_129, kb_129, (0 : Int32), [], rfl, N129, KC129, sz121, q129_0, q129_1, q129_2, q129_3, o136⟩
  · rw [hk120]
    refine g_iloadN X0 hx hby d_str_35 rfl (rfl : 35 + 1 = 36) ?_
    refine g_ifT X0 hx hby d_str_36 ((if0 _ _).trans (feq (by decide : ¬ ((1 : Int32) = (0 : Int32)))).2) (by decide) (pc' := 50) (by decide) ?_
    refine g_iloadN X0 hx hby d_str_50 rfl (rfl : 50 + 1 = 51) ?_
    refine g_iconst X0 hx hby (1 : Int32) d_str_51 (by decide) (rfl : 51 + 1 = 52) ?_
    refine g_icF X0 hx hby d_str_52 (teq (by decide : (1 : Int32) = (1 : Int32))).2 (rfl : 52 + 3 = 55) ?_
    obtain ⟨T137, h137, X137, e137, E137, A137, D137, -, st137⟩ := newO X0 hx hZ hown (hw _ (List.mem_of_getElem? (i := 7) rfl)) (hw _ (List.mem_of_getElem? (i := 8) rfl)) (hw _ (List.mem_of_getElem? (i := 9) rfl)) e0 (g := (mkF m 55 #[.val (.int x), .val (.int (1 : Int32)), .val (.int ((x &&& (255 : Int32)).toUInt32.toUInt16.toUInt32.toInt32)), .val (.int ((((x.toUInt32 >>> ((8 : Int32) &&& 31).toUInt32).toInt32) &&& (255 : Int32)).toUInt32.toUInt16.toUInt32.toInt32)), .val (.int ((((x.toUInt32 >>> ((16 : Int32) &&& 31).toUInt32).toInt32) &&& (255 : Int32)).toUInt32.toUInt16.toUInt32.toInt32))] [])) rfl (hb hby d_str_55) (by decide) (by decide)
    obtain ⟨b137, g137⟩ : ∃ z, z = h0.size := ⟨_, rfl⟩
    rw [← g137] at A137 D137 st137
    have Z137 : n0 ≤ h137.size := Nat.le_trans Z0 E137.1
    have hkk := Nat.le_trans hkk E137.1
    have CR137 := CHr.trans CR0 (CHr.ext E137 CR0.1)
    have K137 : Keep h0 h137 [] := (Keep.refl h0 []).ext E137
    have sf138 := Safe.ext E137 CR0.1 (Safe.new (Nat.le_of_eq g137.symm))
    have ge137 : n0 ≤ b137 := Nat.le_trans Z0 (Nat.le_of_eq g137.symm)
    have sz137 : h0.size ≤ b137 := Nat.le_trans (Keep.refl h0 []).1 (Nat.le_of_eq g137.symm)
    have f139 : Fld Z h137 b137 "java/lang/String" "value" "[B" .null := D137 (Or.inr (hw _ (List.mem_of_getElem? (i := 23) rfl))) (ty := (.array .byte)) (by decide)
    have f140 : Fld Z h137 b137 "java/lang/String" "coder" "B" (.int (0 : Int32)) := D137 (Or.inr (hw _ (List.mem_of_getElem? (i := 24) rfl))) (ty := .byte) (by decide)
    refine own_go st137 ?_
    show own_Got p e below _ T137 (mkF m 58 #[.val (.int x), .val (.int (1 : Int32)), .val (.int ((x &&& (255 : Int32)).toUInt32.toUInt16.toUInt32.toInt32)), .val (.int ((((x.toUInt32 >>> ((8 : Int32) &&& 31).toUInt32).toInt32) &&& (255 : Int32)).toUInt32.toUInt16.toUInt32.toInt32)), .val (.int ((((x.toUInt32 >>> ((16 : Int32) &&& 31).toUInt32).toInt32) &&& (255 : Int32)).toUInt32.toUInt16.toUInt32.toInt32))] [(.ref b137)])
    refine g_dup X137 hx hby d_str_58 rfl (rfl : 58 + 1 = 59) ?_
    refine g_iconst X137 hx hby (1 : Int32) d_str_59 (by decide) (rfl : 59 + 1 = 60) ?_
    obtain ⟨T141, h141, k141, X141, e141, E141, A141, B141, st141⟩ := newPE X137 hx hZ (hw _ (List.mem_of_getElem? (i := 10) rfl)) e137 (g := (mkF m 60 #[.val (.int x), .val (.int (1 : Int32)), .val (.int ((x &&& (255 : Int32)).toUInt32.toUInt16.toUInt32.toInt32)), .val (.int ((((x.toUInt32 >>> ((8 : Int32) &&& 31).toUInt32).toInt32) &&& (255 : Int32)).toUInt32.toUInt16.toUInt32.toInt32)), .val (.int ((((x.toUInt32 >>> ((16 : Int32) &&& 31).toUInt32).toInt32) &&& (255 : Int32)).toUInt32.toUInt16.toUInt32.toInt32))] [(.int (1 : Int32)), (.ref b137), (.ref b137)])) rfl (hb hby d_str_60) rfl (by decide) (cap := 1) (by decide) (by decide) (by decide) (by decide) (ad := "[C") (by decide +kernel)
    obtain ⟨b141, g141⟩ : ∃ z, z = h137.size := ⟨_, rfl⟩
    rw [← g141] at A141 B141 st141
    have ne142 : b137 ≠ b141 := Nat.ne_of_lt (Nat.lt_of_lt_of_le (A137).lt (Nat.le_of_eq g141.symm))
    have Z141 : n0 ≤ h141.size := Nat.le_trans Z137 E141.1
    have hkk := Nat.le_trans hkk E141.1
    have CR141 := CHr.trans CR137 (CHr.ext E141 CR137.1)
    have sf143 := Safe.ext E141 CR137.1 sf138
    have K141 : Keep h0 h141 [] := K137.ext E141
    have sf144 := Safe.ext E141 CR137.1 (Safe.new (Nat.le_of_eq g141.symm))
    have ge141 : n0 ≤ b141 := Nat.le_trans Z137 (Nat.le_of_eq g141.symm)
    have sz141 : h0.size ≤ b141 := Nat.le_trans K137.1 (Nat.le_of_eq g141.symm)
    have V141 : Arv Z h141 b141 k141 .char (1 : Int32) [(.int (0 : Int32))] (.int (0 : Int32)) := (Arv.new A141 (by decide)).pad (pad_rep [] _ 1)
    refine own_go st141 ?_
    show own_Got p e below _ T141 (mkF m 62 #[.val (.int x), .val (.int (1 : Int32)), .val (.int ((x &&& (255 : Int32)).toUInt32.toUInt16.toUInt32.toInt32)), .val (.int ((((x.toUInt32 >>> ((8 : Int32) &&& 31).toUInt32).toInt32) &&& (255 : Int32)).toUInt32.toUInt16.toUInt32.toInt32)), .val (.int ((((x.toUInt32 >>> ((16 : Int32) &&& 31).toUInt32).toInt32) &&& (255 : Int32)).toUInt32.toUInt16.toUInt32.toInt32))] [(.ref b141), (.ref b137), (.ref b137)])
    refine g_dup X141 hx hby d_str_62 rfl (rfl : 62 + 1 = 63) ?_
    refine g_iconst X141 hx hby (0 : Int32) d_str_63 (by decide) (rfl : 63 + 1 = 64) ?_
    refine g_iloadN X141 hx hby d_str_64 rfl (rfl : 64 + 1 = 65) ?_
    obtain ⟨T145, h145, X145, e145, W145, V145, st145⟩ := a_castore X141 hx hby hZ e141 (ls := #[.val (.int x), .val (.int (1 : Int32)), .val (.int ((x &&& (255 : Int32)).toUInt32.toUInt16.toUInt32.toInt32)), .val (.int ((((x.toUInt32 >>> ((8 : Int32) &&& 31).toUInt32).toInt32) &&& (255 : Int32)).toUInt32.toUInt16.toUInt32.toInt32)), .val (.int ((((x.toUInt32 >>> ((16 : Int32) &&& 31).toUInt32).toInt32) &&& (255 : Int32)).toUInt32.toUInt16.toUInt32.toInt32))]) (st := [(.ref b141), (.ref b137), (.ref b137)]) (j := (0 : Int32)) ((x &&& (255 : Int32)).toUInt32.toUInt16.toUInt32.toInt32) 0 V141 ⟨by decide, by decide⟩ (by decide) (Nat.le_of_ble_eq_true rfl) d_str_65
    have Z145 : n0 ≤ h145.size := Nat.le_trans Z141 (Keep.of_wr W145).1
    have hkk := Nat.le_trans hkk (Keep.of_wr W145).1
    have CR145 := CHr.trans CR141 (CHr.wr W145 sf144 CR141.1)
    have sf146 := Safe.wr W145 sf144 CR141.1 sf143
    have sf147 := Safe.wr W145 sf144 CR141.1 sf144
    have N145 := Fr.snoc X145 N0 ge141
    have K145 : Keep h0 h145 [] := K141.wr W145 (Or.inr sz141)
    have V145' : Arv Z h145 b141 k141 .char (1 : Int32) [(.int ((x &&& (255 : Int32)).toUInt32.toUInt16.toUInt32.toInt32))] (.int (0 : Int32)) := by have q := V145; rw [own_nc] at q; exact q
    refine own_go st145 ?_
    show own_Got p e below _ T145 (mkF m 66 #[.val (.int x), .val (.int (1 : Int32)), .val (.int ((x &&& (255 : Int32)).toUInt32.toUInt16.toUInt32.toInt32)), .val (.int ((((x.toUInt32 >>> ((8 : Int32) &&& 31).toUInt32).toInt32) &&& (255 : Int32)).toUInt32.toUInt16.toUInt32.toInt32)), .val (.int ((((x.toUInt32 >>> ((16 : Int32) &&& 31).toUInt32).toInt32) &&& (255 : Int32)).toUInt32.toUInt16.toUInt32.toInt32))] [(.ref b141), (.ref b137), (.ref b137)])
    have f149 : Exa Z h145 b137 "java/lang/String" := (Exa.wr W145 (Exa.ext E141 A137))
    have f150 : Fld Z h145 b137 "java/lang/String" "value" "[B" .null := (Fld.other W145 (Fld.ext E141 f139) (Or.inl ne142))
    have f151 : Fld Z h145 b137 "java/lang/String" "coder" "B" (.int (0 : Int32)) := (Fld.other W145 (Fld.ext E141 f140) (Or.inl ne142))
    have f152 : Sta Z h145 "java/lang/String" "COMPACT_STRINGS" "Z" (.int g1) := (Sta.wr W145 (Sta.ext E141 (Sta.ext E137 hp0)))
    have f153 : Exa Z h145 b141 "[C" := (Exa.wr W145 B141)
    obtain ⟨_, _, ⟨T148, L148, k148, n148⟩, -, X148, ⟨Lc148, hQ148, l148, y148, z148⟩, st148⟩ := X145.specialBack hx (y := (⟨"java/lang/String", "<init>", "([C)V"⟩ : MethodName)) rfl hown (mvT hZ (hw _ (List.mem_of_getElem? (i := 11) rfl))) (mvT hZ (hw _ (List.mem_of_getElem? (i := 12) rfl))) (mvT hZ (hw _ (List.mem_of_getElem? (i := 13) rfl))) (by decide) (backOf (W := 1) (rm_si1_1 l Z aT hw [] b137 b141 k141 ((x &&& (255 : Int32)).toUInt32.toUInt16.toUInt32.toInt32) g1 h145 n0 Z145 f149 f150 f151 ge137 V145' f152 (own_c255 _ : ¬ ((255 : Int32) < ((x &&& (255 : Int32)).toUInt32.toUInt16.toUInt32.toInt32))) hg1) hZ (hw _ (List.mem_of_getElem? (i := 13) rfl)) (hw _ (List.mem_of_getElem? (i := 9) rfl)) (by decide) (by decide)) (g := (mkF m 66 #[.val (.int x), .val (.int (1 : Int32)), .val (.int ((x &&& (255 : Int32)).toUInt32.toUInt16.toUInt32.toInt32)), .val (.int ((((x.toUInt32 >>> ((8 : Int32) &&& 31).toUInt32).toInt32) &&& (255 : Int32)).toUInt32.toUInt16.toUInt32.toInt32)), .val (.int ((((x.toUInt32 >>> ((16 : Int32) &&& 31).toUInt32).toInt32) &&& (255 : Int32)).toUInt32.toUInt16.toUInt32.toInt32))] [(.ref b141), (.ref b137), (.ref b137)])) rfl (by rw [hml]; rfl) (Steps.refl _) (a := b137) (argsL := [(.ref b141)]) (rest := [(.ref b137)]) (lenOf pd4 rfl) rfl (by show 2 * 0 + _ ≤ _; exact Nat.le_of_eq rfl) (hb hby d_str_66) (fun _ _ => ⟨rfl, e145, (by decide : 2 + 1 ≤ _), (by decide : 5 + 1 ≤ _)⟩)
    dsimp only [Pt.U, Pt.locs, Pt.cells, Pt.slots] at X148 l148 y148 z148 st148 hQ148
    subst l148 y148 z148
    obtain ⟨ob_148, kb_148, rfl, N148q, K148, q148_0, q148_1, q148_2, q148_3, q148_4, q148_5⟩ := hQ148
    have N148 := Fr.app N145 N148q
    have Z148 : n0 ≤ T148.heap.size := Nat.le_trans Z145 K148.1
    have hkk := Nat.le_trans hkk K148.1
    have CR148 := CHr.trans CR145 (CHr.keep K148 (allS sf146 all0) CR145.1)
    have sf154 := Safe.keep K148 (allS sf146 all0) CR145.1 sf146
    have sf155 := Safe.keep K148 (allS sf146 all0) CR145.1 sf147
    have KC148 : Keep h0 T148.heap [] := K145.trans K148 (allS (Or.inr sz137) all0)
    have ne156 : b137 ≠ ob_148 := Nat.ne_of_lt (Nat.lt_of_lt_of_le (f149).lt q148_3)
    have ne157 : b141 ≠ ob_148 := Nat.ne_of_lt (Nat.lt_of_lt_of_le (f153).lt q148_3)
    have ge158 : n0 ≤ ob_148 := Nat.le_trans Z145 q148_3
    have sz159 : h0.size ≤ ob_148 := Nat.le_trans K145.1 q148_3
    refine own_tr st148 ?_
    show own_Got p e below _ T148 (mkF m 69 #[.val (.int x), .val (.int (1 : Int32)), .val (.int ((x &&& (255 : Int32)).toUInt32.toUInt16.toUInt32.toInt32)), .val (.int ((((x.toUInt32 >>> ((8 : Int32) &&& 31).toUInt32).toInt32) &&& (255 : Int32)).toUInt32.toUInt16.toUInt32.toInt32)), .val (.int ((((x.toUInt32 >>> ((16 : Int32) &&& 31).toUInt32).toInt32) &&& (255 : Int32)).toUInt32.toUInt16.toUInt32.toInt32))] [(.ref b137)])
    have o160 : own_st x (1 : Int32) [(.int (((x &&& (255 : Int32)).toUInt32.toUInt16.toUInt32.toInt32).toInt8.toInt32))] := Or.inr (Or.inl ⟨hk120, rfl, rfl⟩)
    refine own_retRW X148 hx hby hS hkk hZ hEL rfl CR148 hlk hrt rfl d_str_69 (by decide) (by decide) rfl ?_
    show Q_str Z x g1 h0 n0 _ T148.heap _
    exact ⟨b137, ob_148, kb_148, (1 : Int32), [(.int (((x &&& (255 : Int32)).toUInt32.toUInt16.toUInt32.toInt32).toInt8.toInt32))], rfl, N148, KC148, sz137, q148_0, q148_1, q148_2, q148_5, o160⟩
  · rw [hk120]
    refine g_iloadN X0 hx hby d_str_35 rfl (rfl : 35 + 1 = 36) ?_
    refine g_ifT X0 hx hby d_str_36 ((if0 _ _).trans (feq (by decide : ¬ ((2 : Int32) = (0 : Int32)))).2) (by decide) (pc' := 50) (by decide) ?_
    refine g_iloadN X0 hx hby d_str_50 rfl (rfl : 50 + 1 = 51) ?_
    refine g_iconst X0 hx hby (1 : Int32) d_str_51 (by decide) (rfl : 51 + 1 = 52) ?_
    refine g_icT X0 hx hby d_str_52 (feq (by decide : ¬ ((2 : Int32) = (1 : Int32)))).2 (by decide) (pc' := 70) (by decide) ?_
    refine g_iloadN X0 hx hby d_str_70 rfl (rfl : 70 + 1 = 71) ?_
    refine g_iconst X0 hx hby (2 : Int32) d_str_71 (by decide) (rfl : 71 + 1 = 72) ?_
    refine g_icF X0 hx hby d_str_72 (teq (by decide : (2 : Int32) = (2 : Int32))).2 (rfl : 72 + 3 = 75) ?_
    obtain ⟨T161, h161, X161, e161, E161, A161, D161, -, st161⟩ := newO X0 hx hZ hown (hw _ (List.mem_of_getElem? (i := 7) rfl)) (hw _ (List.mem_of_getElem? (i := 8) rfl)) (hw _ (List.mem_of_getElem? (i := 9) rfl)) e0 (g := (mkF m 75 #[.val (.int x), .val (.int (2 : Int32)), .val (.int ((x &&& (255 : Int32)).toUInt32.toUInt16.toUInt32.toInt32)), .val (.int ((((x.toUInt32 >>> ((8 : Int32) &&& 31).toUInt32).toInt32) &&& (255 : Int32)).toUInt32.toUInt16.toUInt32.toInt32)), .val (.int ((((x.toUInt32 >>> ((16 : Int32) &&& 31).toUInt32).toInt32) &&& (255 : Int32)).toUInt32.toUInt16.toUInt32.toInt32))] [])) rfl (hb hby d_str_75) (by decide) (by decide)
    obtain ⟨b161, g161⟩ : ∃ z, z = h0.size := ⟨_, rfl⟩
    rw [← g161] at A161 D161 st161
    have Z161 : n0 ≤ h161.size := Nat.le_trans Z0 E161.1
    have hkk := Nat.le_trans hkk E161.1
    have CR161 := CHr.trans CR0 (CHr.ext E161 CR0.1)
    have K161 : Keep h0 h161 [] := (Keep.refl h0 []).ext E161
    have sf162 := Safe.ext E161 CR0.1 (Safe.new (Nat.le_of_eq g161.symm))
    have ge161 : n0 ≤ b161 := Nat.le_trans Z0 (Nat.le_of_eq g161.symm)
    have sz161 : h0.size ≤ b161 := Nat.le_trans (Keep.refl h0 []).1 (Nat.le_of_eq g161.symm)
    have f163 : Fld Z h161 b161 "java/lang/String" "value" "[B" .null := D161 (Or.inr (hw _ (List.mem_of_getElem? (i := 23) rfl))) (ty := (.array .byte)) (by decide)
    have f164 : Fld Z h161 b161 "java/lang/String" "coder" "B" (.int (0 : Int32)) := D161 (Or.inr (hw _ (List.mem_of_getElem? (i := 24) rfl))) (ty := .byte) (by decide)
    refine own_go st161 ?_
    show own_Got p e below _ T161 (mkF m 78 #[.val (.int x), .val (.int (2 : Int32)), .val (.int ((x &&& (255 : Int32)).toUInt32.toUInt16.toUInt32.toInt32)), .val (.int ((((x.toUInt32 >>> ((8 : Int32) &&& 31).toUInt32).toInt32) &&& (255 : Int32)).toUInt32.toUInt16.toUInt32.toInt32)), .val (.int ((((x.toUInt32 >>> ((16 : Int32) &&& 31).toUInt32).toInt32) &&& (255 : Int32)).toUInt32.toUInt16.toUInt32.toInt32))] [(.ref b161)])
    refine g_dup X161 hx hby d_str_78 rfl (rfl : 78 + 1 = 79) ?_
    refine g_iconst X161 hx hby (2 : Int32) d_str_79 (by decide) (rfl : 79 + 1 = 80) ?_
    obtain ⟨T165, h165, k165, X165, e165, E165, A165, B165, st165⟩ := newPE X161 hx hZ (hw _ (List.mem_of_getElem? (i := 10) rfl)) e161 (g := (mkF m 80 #[.val (.int x), .val (.int (2 : Int32)), .val (.int ((x &&& (255 : Int32)).toUInt32.toUInt16.toUInt32.toInt32)), .val (.int ((((x.toUInt32 >>> ((8 : Int32) &&& 31).toUInt32).toInt32) &&& (255 : Int32)).toUInt32.toUInt16.toUInt32.toInt32)), .val (.int ((((x.toUInt32 >>> ((16 : Int32) &&& 31).toUInt32).toInt32) &&& (255 : Int32)).toUInt32.toUInt16.toUInt32.toInt32))] [(.int (2 : Int32)), (.ref b161), (.ref b161)])) rfl (hb hby d_str_80) rfl (by decide) (cap := 2) (by decide) (by decide) (by decide) (by decide) (ad := "[C") (by decide +kernel)
    obtain ⟨b165, g165⟩ : ∃ z, z = h161.size := ⟨_, rfl⟩
    rw [← g165] at A165 B165 st165
    have ne166 : b161 ≠ b165 := Nat.ne_of_lt (Nat.lt_of_lt_of_le (A161).lt (Nat.le_of_eq g165.symm))
    have Z165 : n0 ≤ h165.size := Nat.le_trans Z161 E165.1
    have hkk := Nat.le_trans hkk E165.1
    have CR165 := CHr.trans CR161 (CHr.ext E165 CR161.1)
    have sf167 := Safe.ext E165 CR161.1 sf162
    have K165 : Keep h0 h165 [] := K161.ext E165
    have sf168 := Safe.ext E165 CR161.1 (Safe.new (Nat.le_of_eq g165.symm))
    have ge165 : n0 ≤ b165 := Nat.le_trans Z161 (Nat.le_of_eq g165.symm)
    have sz165 : h0.size ≤ b165 := Nat.le_trans K161.1 (Nat.le_of_eq g165.symm)
    have V165 : Arv Z h165 b165 k165 .char (2 : Int32) [(.int (0 : Int32)), (.int (0 : Int32))] (.int (0 : Int32)) := (Arv.new A165 (by decide)).pad (pad_rep [] _ 2)
    refine own_go st165 ?_
    show own_Got p e below _ T165 (mkF m 82 #[.val (.int x), .val (.int (2 : Int32)), .val (.int ((x &&& (255 : Int32)).toUInt32.toUInt16.toUInt32.toInt32)), .val (.int ((((x.toUInt32 >>> ((8 : Int32) &&& 31).toUInt32).toInt32) &&& (255 : Int32)).toUInt32.toUInt16.toUInt32.toInt32)), .val (.int ((((x.toUInt32 >>> ((16 : Int32) &&& 31).toUInt32).toInt32) &&& (255 : Int32)).toUInt32.toUInt16.toUInt32.toInt32))] [(.ref b165), (.ref b161), (.ref b161)])
    refine g_dup X165 hx hby d_str_82 rfl (rfl : 82 + 1 = 83) ?_
    refine g_iconst X165 hx hby (0 : Int32) d_str_83 (by decide) (rfl : 83 + 1 = 84) ?_
    refine g_iloadN X165 hx hby d_str_84 rfl (rfl : 84 + 1 = 85) ?_
    obtain ⟨T169, h169, X169, e169, W169, V169, st169⟩ := a_castore X165 hx hby hZ e165 (ls := #[.val (.int x), .val (.int (2 : Int32)), .val (.int ((x &&& (255 : Int32)).toUInt32.toUInt16.toUInt32.toInt32)), .val (.int ((((x.toUInt32 >>> ((8 : Int32) &&& 31).toUInt32).toInt32) &&& (255 : Int32)).toUInt32.toUInt16.toUInt32.toInt32)), .val (.int ((((x.toUInt32 >>> ((16 : Int32) &&& 31).toUInt32).toInt32) &&& (255 : Int32)).toUInt32.toUInt16.toUInt32.toInt32))]) (st := [(.ref b165), (.ref b161), (.ref b161)]) (j := (0 : Int32)) ((x &&& (255 : Int32)).toUInt32.toUInt16.toUInt32.toInt32) 0 V165 ⟨by decide, by decide⟩ (by decide) (Nat.le_of_ble_eq_true rfl) d_str_85
    have Z169 : n0 ≤ h169.size := Nat.le_trans Z165 (Keep.of_wr W169).1
    have hkk := Nat.le_trans hkk (Keep.of_wr W169).1
    have CR169 := CHr.trans CR165 (CHr.wr W169 sf168 CR165.1)
    have sf170 := Safe.wr W169 sf168 CR165.1 sf167
    have sf171 := Safe.wr W169 sf168 CR165.1 sf168
    have N169 := Fr.snoc X169 N0 ge165
    have K169 : Keep h0 h169 [] := K165.wr W169 (Or.inr sz165)
    have V169' : Arv Z h169 b165 k165 .char (2 : Int32) [(.int ((x &&& (255 : Int32)).toUInt32.toUInt16.toUInt32.toInt32)), (.int (0 : Int32))] (.int (0 : Int32)) := by have q := V169; rw [own_nc] at q; exact q
    refine own_go st169 ?_
    show own_Got p e below _ T169 (mkF m 86 #[.val (.int x), .val (.int (2 : Int32)), .val (.int ((x &&& (255 : Int32)).toUInt32.toUInt16.toUInt32.toInt32)), .val (.int ((((x.toUInt32 >>> ((8 : Int32) &&& 31).toUInt32).toInt32) &&& (255 : Int32)).toUInt32.toUInt16.toUInt32.toInt32)), .val (.int ((((x.toUInt32 >>> ((16 : Int32) &&& 31).toUInt32).toInt32) &&& (255 : Int32)).toUInt32.toUInt16.toUInt32.toInt32))] [(.ref b165), (.ref b161), (.ref b161)])
    refine g_dup X169 hx hby d_str_86 rfl (rfl : 86 + 1 = 87) ?_
    refine g_iconst X169 hx hby (1 : Int32) d_str_87 (by decide) (rfl : 87 + 1 = 88) ?_
    refine g_iloadN X169 hx hby d_str_88 rfl (rfl : 88 + 1 = 89) ?_
    obtain ⟨T172, h172, X172, e172, W172, V172, st172⟩ := a_castore X169 hx hby hZ e169 (ls := #[.val (.int x), .val (.int (2 : Int32)), .val (.int ((x &&& (255 : Int32)).toUInt32.toUInt16.toUInt32.toInt32)), .val (.int ((((x.toUInt32 >>> ((8 : Int32) &&& 31).toUInt32).toInt32) &&& (255 : Int32)).toUInt32.toUInt16.toUInt32.toInt32)), .val (.int ((((x.toUInt32 >>> ((16 : Int32) &&& 31).toUInt32).toInt32) &&& (255 : Int32)).toUInt32.toUInt16.toUInt32.toInt32))]) (st := [(.ref b165), (.ref b161), (.ref b161)]) (j := (1 : Int32)) ((((x.toUInt32 >>> ((8 : Int32) &&& 31).toUInt32).toInt32) &&& (255 : Int32)).toUInt32.toUInt16.toUInt32.toInt32) 1 V169' ⟨by decide, by decide⟩ (by decide) (Nat.le_of_ble_eq_true rfl) d_str_89
    have Z172 : n0 ≤ h172.size := Nat.le_trans Z169 (Keep.of_wr W172).1
    have hkk := Nat.le_trans hkk (Keep.of_wr W172).1
    have CR172 := CHr.trans CR169 (CHr.wr W172 sf171 CR169.1)
    have sf173 := Safe.wr W172 sf171 CR169.1 sf170
    have sf174 := Safe.wr W172 sf171 CR169.1 sf171
    have N172 := Fr.snoc X172 N169 ge165
    have K172 : Keep h0 h172 [] := K169.wr W172 (Or.inr sz165)
    have V172' : Arv Z h172 b165 k165 .char (2 : Int32) [(.int ((x &&& (255 : Int32)).toUInt32.toUInt16.toUInt32.toInt32)), (.int ((((x.toUInt32 >>> ((8 : Int32) &&& 31).toUInt32).toInt32) &&& (255 : Int32)).toUInt32.toUInt16.toUInt32.toInt32))] (.int (0 : Int32)) := by have q := V172; rw [own_nc] at q; exact q
    refine own_go st172 ?_
    show own_Got p e below _ T172 (mkF m 90 #[.val (.int x), .val (.int (2 : Int32)), .val (.int ((x &&& (255 : Int32)).toUInt32.toUInt16.toUInt32.toInt32)), .val (.int ((((x.toUInt32 >>> ((8 : Int32) &&& 31).toUInt32).toInt32) &&& (255 : Int32)).toUInt32.toUInt16.toUInt32.toInt32)), .val (.int ((((x.toUInt32 >>> ((16 : Int32) &&& 31).toUInt32).toInt32) &&& (255 : Int32)).toUInt32.toUInt16.toUInt32.toInt32))] [(.ref b165), (.ref b161), (.ref b161)])
    have f176 : Exa Z h172 b161 "java/lang/String" := (Exa.wr W172 (Exa.wr W169 (Exa.ext E165 A161)))
    have f177 : Fld Z h172 b161 "java/lang/String" "value" "[B" .null := (Fld.other W172 (Fld.other W169 (Fld.ext E165 f163) (Or.inl ne166)) (Or.inl ne166))
    have f178 : Fld Z h172 b161 "java/lang/String" "coder" "B" (.int (0 : Int32)) := (Fld.other W172 (Fld.other W169 (Fld.ext E165 f164) (Or.inl ne166)) (Or.inl ne166))
    have f179 : Sta Z h172 "java/lang/String" "COMPACT_STRINGS" "Z" (.int g1) := (Sta.wr W172 (Sta.wr W169 (Sta.ext E165 (Sta.ext E161 hp0))))
    have f180 : Exa Z h172 b165 "[C" := (Exa.wr W172 (Exa.wr W169 B165))
    obtain ⟨_, _, ⟨T175, L175, k175, n175⟩, -, X175, ⟨Lc175, hQ175, l175, y175, z175⟩, st175⟩ := X172.specialBack hx (y := (⟨"java/lang/String", "<init>", "([C)V"⟩ : MethodName)) rfl hown (mvT hZ (hw _ (List.mem_of_getElem? (i := 11) rfl))) (mvT hZ (hw _ (List.mem_of_getElem? (i := 12) rfl))) (mvT hZ (hw _ (List.mem_of_getElem? (i := 13) rfl))) (by decide) (backOf (W := 1) (rm_si1_2 l Z aT hw [] b161 b165 k165 ((x &&& (255 : Int32)).toUInt32.toUInt16.toUInt32.toInt32) ((((x.toUInt32 >>> ((8 : Int32) &&& 31).toUInt32).toInt32) &&& (255 : Int32)).toUInt32.toUInt16.toUInt32.toInt32) g1 h172 n0 Z172 f176 f177 f178 ge161 V172' f179 (own_c255 _ : ¬ ((255 : Int32) < ((x &&& (255 : Int32)).toUInt32.toUInt16.toUInt32.toInt32))) (own_c255 _ : ¬ ((255 : Int32) < ((((x.toUInt32 >>> ((8 : Int32) &&& 31).toUInt32).toInt32) &&& (255 : Int32)).toUInt32.toUInt16.toUInt32.toInt32))) hg1) hZ (hw _ (List.mem_of_getElem? (i := 13) rfl)) (hw _ (List.mem_of_getElem? (i := 9) rfl)) (by decide) (by decide)) (g := (mkF m 90 #[.val (.int x), .val (.int (2 : Int32)), .val (.int ((x &&& (255 : Int32)).toUInt32.toUInt16.toUInt32.toInt32)), .val (.int ((((x.toUInt32 >>> ((8 : Int32) &&& 31).toUInt32).toInt32) &&& (255 : Int32)).toUInt32.toUInt16.toUInt32.toInt32)), .val (.int ((((x.toUInt32 >>> ((16 : Int32) &&& 31).toUInt32).toInt32) &&& (255 : Int32)).toUInt32.toUInt16.toUInt32.toInt32))] [(.ref b165), (.ref b161), (.ref b161)])) rfl (by rw [hml]; rfl) (Steps.refl _) (a := b161) (argsL := [(.ref b165)]) (rest := [(.ref b161)]) (lenOf pd4 rfl) rfl (by show 2 * 0 + _ ≤ _; exact Nat.le_of_eq rfl) (hb hby d_str_90) (fun _ _ => ⟨rfl, e172, (by decide : 2 + 1 ≤ _), (by decide : 6 + 2 ≤ _)⟩)
    dsimp only [Pt.U, Pt.locs, Pt.cells, Pt.slots] at X175 l175 y175 z175 st175 hQ175
    subst l175 y175 z175
    obtain ⟨ob_175, kb_175, rfl, N175q, K175, q175_0, q175_1, q175_2, q175_3, q175_4, q175_5⟩ := hQ175
    have N175 := Fr.app N172 N175q
    have Z175 : n0 ≤ T175.heap.size := Nat.le_trans Z172 K175.1
    have hkk := Nat.le_trans hkk K175.1
    have CR175 := CHr.trans CR172 (CHr.keep K175 (allS sf173 all0) CR172.1)
    have sf181 := Safe.keep K175 (allS sf173 all0) CR172.1 sf173
    have sf182 := Safe.keep K175 (allS sf173 all0) CR172.1 sf174
    have KC175 : Keep h0 T175.heap [] := K172.trans K175 (allS (Or.inr sz161) all0)
    have ne183 : b161 ≠ ob_175 := Nat.ne_of_lt (Nat.lt_of_lt_of_le (f176).lt q175_3)
    have ne184 : b165 ≠ ob_175 := Nat.ne_of_lt (Nat.lt_of_lt_of_le (f180).lt q175_3)
    have ge185 : n0 ≤ ob_175 := Nat.le_trans Z172 q175_3
    have sz186 : h0.size ≤ ob_175 := Nat.le_trans K172.1 q175_3
    refine own_tr st175 ?_
    show own_Got p e below _ T175 (mkF m 93 #[.val (.int x), .val (.int (2 : Int32)), .val (.int ((x &&& (255 : Int32)).toUInt32.toUInt16.toUInt32.toInt32)), .val (.int ((((x.toUInt32 >>> ((8 : Int32) &&& 31).toUInt32).toInt32) &&& (255 : Int32)).toUInt32.toUInt16.toUInt32.toInt32)), .val (.int ((((x.toUInt32 >>> ((16 : Int32) &&& 31).toUInt32).toInt32) &&& (255 : Int32)).toUInt32.toUInt16.toUInt32.toInt32))] [(.ref b161)])
    have o187 : own_st x (2 : Int32) [(.int (((x &&& (255 : Int32)).toUInt32.toUInt16.toUInt32.toInt32).toInt8.toInt32)), (.int (((((x.toUInt32 >>> ((8 : Int32) &&& 31).toUInt32).toInt32) &&& (255 : Int32)).toUInt32.toUInt16.toUInt32.toInt32).toInt8.toInt32))] := Or.inr (Or.inr (Or.inl ⟨hk120, rfl, rfl⟩))
    refine own_retRW X175 hx hby hS hkk hZ hEL rfl CR175 hlk hrt rfl d_str_93 (by decide) (by decide) rfl ?_
    show Q_str Z x g1 h0 n0 _ T175.heap _
    exact ⟨b161, ob_175, kb_175, (2 : Int32), [(.int (((x &&& (255 : Int32)).toUInt32.toUInt16.toUInt32.toInt32).toInt8.toInt32)), (.int (((((x.toUInt32 >>> ((8 : Int32) &&& 31).toUInt32).toInt32) &&& (255 : Int32)).toUInt32.toUInt16.toUInt32.toInt32).toInt8.toInt32))], rfl, N175, KC175, sz161, q175_0, q175_1, q175_2, q175_5, o187⟩
  · rw [hk120]
    refine g_iloadN X0 hx hby d_str_35 rfl (rfl : 35 + 1 = 36) ?_
    refine g_ifT X0 hx hby d_str_36 ((if0 _ _).trans (feq (by decide : ¬ ((3 : Int32) = (0 : Int32)))).2) (by decide) (pc' := 50) (by decide) ?_
    refine g_iloadN X0 hx hby d_str_50 rfl (rfl : 50 + 1 = 51) ?_
    refine g_iconst X0 hx hby (1 : Int32) d_str_51 (by decide) (rfl : 51 + 1 = 52) ?_
    refine g_icT X0 hx hby d_str_52 (feq (by decide : ¬ ((3 : Int32) = (1 : Int32)))).2 (by decide) (pc' := 70) (by decide) ?_
    refine g_iloadN X0 hx hby d_str_70 rfl (rfl : 70 + 1 = 71) ?_
    refine g_iconst X0 hx hby (2 : Int32) d_str_71 (by decide) (rfl : 71 + 1 = 72) ?_
    refine g_icT X0 hx hby d_str_72 (feq (by decide : ¬ ((3 : Int32) = (2 : Int32)))).2 (by decide) (pc' := 94) (by decide) ?_
    obtain ⟨T188, h188, X188, e188, E188, A188, D188, -, st188⟩ := newO X0 hx hZ hown (hw _ (List.mem_of_getElem? (i := 7) rfl)) (hw _ (List.mem_of_getElem? (i := 8) rfl)) (hw _ (List.mem_of_getElem? (i := 9) rfl)) e0 (g := (mkF m 94 #[.val (.int x), .val (.int (3 : Int32)), .val (.int ((x &&& (255 : Int32)).toUInt32.toUInt16.toUInt32.toInt32)), .val (.int ((((x.toUInt32 >>> ((8 : Int32) &&& 31).toUInt32).toInt32) &&& (255 : Int32)).toUInt32.toUInt16.toUInt32.toInt32)), .val (.int ((((x.toUInt32 >>> ((16 : Int32) &&& 31).toUInt32).toInt32) &&& (255 : Int32)).toUInt32.toUInt16.toUInt32.toInt32))] [])) rfl (hb hby d_str_94) (by decide) (by decide)
    obtain ⟨b188, g188⟩ : ∃ z, z = h0.size := ⟨_, rfl⟩
    rw [← g188] at A188 D188 st188
    have Z188 : n0 ≤ h188.size := Nat.le_trans Z0 E188.1
    have hkk := Nat.le_trans hkk E188.1
    have CR188 := CHr.trans CR0 (CHr.ext E188 CR0.1)
    have K188 : Keep h0 h188 [] := (Keep.refl h0 []).ext E188
    have sf189 := Safe.ext E188 CR0.1 (Safe.new (Nat.le_of_eq g188.symm))
    have ge188 : n0 ≤ b188 := Nat.le_trans Z0 (Nat.le_of_eq g188.symm)
    have sz188 : h0.size ≤ b188 := Nat.le_trans (Keep.refl h0 []).1 (Nat.le_of_eq g188.symm)
    have f190 : Fld Z h188 b188 "java/lang/String" "value" "[B" .null := D188 (Or.inr (hw _ (List.mem_of_getElem? (i := 23) rfl))) (ty := (.array .byte)) (by decide)
    have f191 : Fld Z h188 b188 "java/lang/String" "coder" "B" (.int (0 : Int32)) := D188 (Or.inr (hw _ (List.mem_of_getElem? (i := 24) rfl))) (ty := .byte) (by decide)
    refine own_go st188 ?_
    show own_Got p e below _ T188 (mkF m 97 #[.val (.int x), .val (.int (3 : Int32)), .val (.int ((x &&& (255 : Int32)).toUInt32.toUInt16.toUInt32.toInt32)), .val (.int ((((x.toUInt32 >>> ((8 : Int32) &&& 31).toUInt32).toInt32) &&& (255 : Int32)).toUInt32.toUInt16.toUInt32.toInt32)), .val (.int ((((x.toUInt32 >>> ((16 : Int32) &&& 31).toUInt32).toInt32) &&& (255 : Int32)).toUInt32.toUInt16.toUInt32.toInt32))] [(.ref b188)])
    refine g_dup X188 hx hby d_str_97 rfl (rfl : 97 + 1 = 98) ?_
    refine g_iconst X188 hx hby (3 : Int32) d_str_98 (by decide) (rfl : 98 + 1 = 99) ?_
    obtain ⟨T192, h192, k192, X192, e192, E192, A192, B192, st192⟩ := newPE X188 hx hZ (hw _ (List.mem_of_getElem? (i := 10) rfl)) e188 (g := (mkF m 99 #[.val (.int x), .val (.int (3 : Int32)), .val (.int ((x &&& (255 : Int32)).toUInt32.toUInt16.toUInt32.toInt32)), .val (.int ((((x.toUInt32 >>> ((8 : Int32) &&& 31).toUInt32).toInt32) &&& (255 : Int32)).toUInt32.toUInt16.toUInt32.toInt32)), .val (.int ((((x.toUInt32 >>> ((16 : Int32) &&& 31).toUInt32).toInt32) &&& (255 : Int32)).toUInt32.toUInt16.toUInt32.toInt32))] [(.int (3 : Int32)), (.ref b188), (.ref b188)])) rfl (hb hby d_str_99) rfl (by decide) (cap := 3) (by decide) (by decide) (by decide) (by decide) (ad := "[C") (by decide +kernel)
    obtain ⟨b192, g192⟩ : ∃ z, z = h188.size := ⟨_, rfl⟩
    rw [← g192] at A192 B192 st192
    have ne193 : b188 ≠ b192 := Nat.ne_of_lt (Nat.lt_of_lt_of_le (A188).lt (Nat.le_of_eq g192.symm))
    have Z192 : n0 ≤ h192.size := Nat.le_trans Z188 E192.1
    have hkk := Nat.le_trans hkk E192.1
    have CR192 := CHr.trans CR188 (CHr.ext E192 CR188.1)
    have sf194 := Safe.ext E192 CR188.1 sf189
    have K192 : Keep h0 h192 [] := K188.ext E192
    have sf195 := Safe.ext E192 CR188.1 (Safe.new (Nat.le_of_eq g192.symm))
    have ge192 : n0 ≤ b192 := Nat.le_trans Z188 (Nat.le_of_eq g192.symm)
    have sz192 : h0.size ≤ b192 := Nat.le_trans K188.1 (Nat.le_of_eq g192.symm)
    have V192 : Arv Z h192 b192 k192 .char (3 : Int32) [(.int (0 : Int32)), (.int (0 : Int32)), (.int (0 : Int32))] (.int (0 : Int32)) := (Arv.new A192 (by decide)).pad (pad_rep [] _ 3)
    refine own_go st192 ?_
    show own_Got p e below _ T192 (mkF m 101 #[.val (.int x), .val (.int (3 : Int32)), .val (.int ((x &&& (255 : Int32)).toUInt32.toUInt16.toUInt32.toInt32)), .val (.int ((((x.toUInt32 >>> ((8 : Int32) &&& 31).toUInt32).toInt32) &&& (255 : Int32)).toUInt32.toUInt16.toUInt32.toInt32)), .val (.int ((((x.toUInt32 >>> ((16 : Int32) &&& 31).toUInt32).toInt32) &&& (255 : Int32)).toUInt32.toUInt16.toUInt32.toInt32))] [(.ref b192), (.ref b188), (.ref b188)])
    refine g_dup X192 hx hby d_str_101 rfl (rfl : 101 + 1 = 102) ?_
    refine g_iconst X192 hx hby (0 : Int32) d_str_102 (by decide) (rfl : 102 + 1 = 103) ?_
    refine g_iloadN X192 hx hby d_str_103 rfl (rfl : 103 + 1 = 104) ?_
    obtain ⟨T196, h196, X196, e196, W196, V196, st196⟩ := a_castore X192 hx hby hZ e192 (ls := #[.val (.int x), .val (.int (3 : Int32)), .val (.int ((x &&& (255 : Int32)).toUInt32.toUInt16.toUInt32.toInt32)), .val (.int ((((x.toUInt32 >>> ((8 : Int32) &&& 31).toUInt32).toInt32) &&& (255 : Int32)).toUInt32.toUInt16.toUInt32.toInt32)), .val (.int ((((x.toUInt32 >>> ((16 : Int32) &&& 31).toUInt32).toInt32) &&& (255 : Int32)).toUInt32.toUInt16.toUInt32.toInt32))]) (st := [(.ref b192), (.ref b188), (.ref b188)]) (j := (0 : Int32)) ((x &&& (255 : Int32)).toUInt32.toUInt16.toUInt32.toInt32) 0 V192 ⟨by decide, by decide⟩ (by decide) (Nat.le_of_ble_eq_true rfl) d_str_104
    have Z196 : n0 ≤ h196.size := Nat.le_trans Z192 (Keep.of_wr W196).1
    have hkk := Nat.le_trans hkk (Keep.of_wr W196).1
    have CR196 := CHr.trans CR192 (CHr.wr W196 sf195 CR192.1)
    have sf197 := Safe.wr W196 sf195 CR192.1 sf194
    have sf198 := Safe.wr W196 sf195 CR192.1 sf195
    have N196 := Fr.snoc X196 N0 ge192
    have K196 : Keep h0 h196 [] := K192.wr W196 (Or.inr sz192)
    have V196' : Arv Z h196 b192 k192 .char (3 : Int32) [(.int ((x &&& (255 : Int32)).toUInt32.toUInt16.toUInt32.toInt32)), (.int (0 : Int32)), (.int (0 : Int32))] (.int (0 : Int32)) := by have q := V196; rw [own_nc] at q; exact q
    refine own_go st196 ?_
    show own_Got p e below _ T196 (mkF m 105 #[.val (.int x), .val (.int (3 : Int32)), .val (.int ((x &&& (255 : Int32)).toUInt32.toUInt16.toUInt32.toInt32)), .val (.int ((((x.toUInt32 >>> ((8 : Int32) &&& 31).toUInt32).toInt32) &&& (255 : Int32)).toUInt32.toUInt16.toUInt32.toInt32)), .val (.int ((((x.toUInt32 >>> ((16 : Int32) &&& 31).toUInt32).toInt32) &&& (255 : Int32)).toUInt32.toUInt16.toUInt32.toInt32))] [(.ref b192), (.ref b188), (.ref b188)])
    refine g_dup X196 hx hby d_str_105 rfl (rfl : 105 + 1 = 106) ?_
    refine g_iconst X196 hx hby (1 : Int32) d_str_106 (by decide) (rfl : 106 + 1 = 107) ?_
    refine g_iloadN X196 hx hby d_str_107 rfl (rfl : 107 + 1 = 108) ?_
    obtain ⟨T199, h199, X199, e199, W199, V199, st199⟩ := a_castore X196 hx hby hZ e196 (ls := #[.val (.int x), .val (.int (3 : Int32)), .val (.int ((x &&& (255 : Int32)).toUInt32.toUInt16.toUInt32.toInt32)), .val (.int ((((x.toUInt32 >>> ((8 : Int32) &&& 31).toUInt32).toInt32) &&& (255 : Int32)).toUInt32.toUInt16.toUInt32.toInt32)), .val (.int ((((x.toUInt32 >>> ((16 : Int32) &&& 31).toUInt32).toInt32) &&& (255 : Int32)).toUInt32.toUInt16.toUInt32.toInt32))]) (st := [(.ref b192), (.ref b188), (.ref b188)]) (j := (1 : Int32)) ((((x.toUInt32 >>> ((8 : Int32) &&& 31).toUInt32).toInt32) &&& (255 : Int32)).toUInt32.toUInt16.toUInt32.toInt32) 1 V196' ⟨by decide, by decide⟩ (by decide) (Nat.le_of_ble_eq_true rfl) d_str_108
    have Z199 : n0 ≤ h199.size := Nat.le_trans Z196 (Keep.of_wr W199).1
    have hkk := Nat.le_trans hkk (Keep.of_wr W199).1
    have CR199 := CHr.trans CR196 (CHr.wr W199 sf198 CR196.1)
    have sf200 := Safe.wr W199 sf198 CR196.1 sf197
    have sf201 := Safe.wr W199 sf198 CR196.1 sf198
    have N199 := Fr.snoc X199 N196 ge192
    have K199 : Keep h0 h199 [] := K196.wr W199 (Or.inr sz192)
    have V199' : Arv Z h199 b192 k192 .char (3 : Int32) [(.int ((x &&& (255 : Int32)).toUInt32.toUInt16.toUInt32.toInt32)), (.int ((((x.toUInt32 >>> ((8 : Int32) &&& 31).toUInt32).toInt32) &&& (255 : Int32)).toUInt32.toUInt16.toUInt32.toInt32)), (.int (0 : Int32))] (.int (0 : Int32)) := by have q := V199; rw [own_nc] at q; exact q
    refine own_go st199 ?_
    show own_Got p e below _ T199 (mkF m 109 #[.val (.int x), .val (.int (3 : Int32)), .val (.int ((x &&& (255 : Int32)).toUInt32.toUInt16.toUInt32.toInt32)), .val (.int ((((x.toUInt32 >>> ((8 : Int32) &&& 31).toUInt32).toInt32) &&& (255 : Int32)).toUInt32.toUInt16.toUInt32.toInt32)), .val (.int ((((x.toUInt32 >>> ((16 : Int32) &&& 31).toUInt32).toInt32) &&& (255 : Int32)).toUInt32.toUInt16.toUInt32.toInt32))] [(.ref b192), (.ref b188), (.ref b188)])
    refine g_dup X199 hx hby d_str_109 rfl (rfl : 109 + 1 = 110) ?_
    refine g_iconst X199 hx hby (2 : Int32) d_str_110 (by decide) (rfl : 110 + 1 = 111) ?_
    refine g_iload X199 hx hby d_str_111 rfl (rfl : 111 + 2 = 113) ?_
    obtain ⟨T202, h202, X202, e202, W202, V202, st202⟩ := a_castore X199 hx hby hZ e199 (ls := #[.val (.int x), .val (.int (3 : Int32)), .val (.int ((x &&& (255 : Int32)).toUInt32.toUInt16.toUInt32.toInt32)), .val (.int ((((x.toUInt32 >>> ((8 : Int32) &&& 31).toUInt32).toInt32) &&& (255 : Int32)).toUInt32.toUInt16.toUInt32.toInt32)), .val (.int ((((x.toUInt32 >>> ((16 : Int32) &&& 31).toUInt32).toInt32) &&& (255 : Int32)).toUInt32.toUInt16.toUInt32.toInt32))]) (st := [(.ref b192), (.ref b188), (.ref b188)]) (j := (2 : Int32)) ((((x.toUInt32 >>> ((16 : Int32) &&& 31).toUInt32).toInt32) &&& (255 : Int32)).toUInt32.toUInt16.toUInt32.toInt32) 2 V199' ⟨by decide, by decide⟩ (by decide) (Nat.le_of_ble_eq_true rfl) d_str_113
    have Z202 : n0 ≤ h202.size := Nat.le_trans Z199 (Keep.of_wr W202).1
    have hkk := Nat.le_trans hkk (Keep.of_wr W202).1
    have CR202 := CHr.trans CR199 (CHr.wr W202 sf201 CR199.1)
    have sf203 := Safe.wr W202 sf201 CR199.1 sf200
    have sf204 := Safe.wr W202 sf201 CR199.1 sf201
    have N202 := Fr.snoc X202 N199 ge192
    have K202 : Keep h0 h202 [] := K199.wr W202 (Or.inr sz192)
    have V202' : Arv Z h202 b192 k192 .char (3 : Int32) [(.int ((x &&& (255 : Int32)).toUInt32.toUInt16.toUInt32.toInt32)), (.int ((((x.toUInt32 >>> ((8 : Int32) &&& 31).toUInt32).toInt32) &&& (255 : Int32)).toUInt32.toUInt16.toUInt32.toInt32)), (.int ((((x.toUInt32 >>> ((16 : Int32) &&& 31).toUInt32).toInt32) &&& (255 : Int32)).toUInt32.toUInt16.toUInt32.toInt32))] (.int (0 : Int32)) := by have q := V202; rw [own_nc] at q; exact q
    refine own_go st202 ?_
    show own_Got p e below _ T202 (mkF m 114 #[.val (.int x), .val (.int (3 : Int32)), .val (.int ((x &&& (255 : Int32)).toUInt32.toUInt16.toUInt32.toInt32)), .val (.int ((((x.toUInt32 >>> ((8 : Int32) &&& 31).toUInt32).toInt32) &&& (255 : Int32)).toUInt32.toUInt16.toUInt32.toInt32)), .val (.int ((((x.toUInt32 >>> ((16 : Int32) &&& 31).toUInt32).toInt32) &&& (255 : Int32)).toUInt32.toUInt16.toUInt32.toInt32))] [(.ref b192), (.ref b188), (.ref b188)])
    have f206 : Exa Z h202 b188 "java/lang/String" := (Exa.wr W202 (Exa.wr W199 (Exa.wr W196 (Exa.ext E192 A188))))
    have f207 : Fld Z h202 b188 "java/lang/String" "value" "[B" .null := (Fld.other W202 (Fld.other W199 (Fld.other W196 (Fld.ext E192 f190) (Or.inl ne193)) (Or.inl ne193)) (Or.inl ne193))
    have f208 : Fld Z h202 b188 "java/lang/String" "coder" "B" (.int (0 : Int32)) := (Fld.other W202 (Fld.other W199 (Fld.other W196 (Fld.ext E192 f191) (Or.inl ne193)) (Or.inl ne193)) (Or.inl ne193))
    have f209 : Sta Z h202 "java/lang/String" "COMPACT_STRINGS" "Z" (.int g1) := (Sta.wr W202 (Sta.wr W199 (Sta.wr W196 (Sta.ext E192 (Sta.ext E188 hp0)))))
    have f210 : Exa Z h202 b192 "[C" := (Exa.wr W202 (Exa.wr W199 (Exa.wr W196 B192)))
    obtain ⟨_, _, ⟨T205, L205, k205, n205⟩, -, X205, ⟨Lc205, hQ205, l205, y205, z205⟩, st205⟩ := X202.specialBack hx (y := (⟨"java/lang/String", "<init>", "([C)V"⟩ : MethodName)) rfl hown (mvT hZ (hw _ (List.mem_of_getElem? (i := 11) rfl))) (mvT hZ (hw _ (List.mem_of_getElem? (i := 12) rfl))) (mvT hZ (hw _ (List.mem_of_getElem? (i := 13) rfl))) (by decide) (backOf (W := 1) (rm_si1_3 l Z aT hw [] b188 b192 k192 ((x &&& (255 : Int32)).toUInt32.toUInt16.toUInt32.toInt32) ((((x.toUInt32 >>> ((8 : Int32) &&& 31).toUInt32).toInt32) &&& (255 : Int32)).toUInt32.toUInt16.toUInt32.toInt32) ((((x.toUInt32 >>> ((16 : Int32) &&& 31).toUInt32).toInt32) &&& (255 : Int32)).toUInt32.toUInt16.toUInt32.toInt32) g1 h202 n0 Z202 f206 f207 f208 ge188 V202' f209 (own_c255 _ : ¬ ((255 : Int32) < ((x &&& (255 : Int32)).toUInt32.toUInt16.toUInt32.toInt32))) (own_c255 _ : ¬ ((255 : Int32) < ((((x.toUInt32 >>> ((8 : Int32) &&& 31).toUInt32).toInt32) &&& (255 : Int32)).toUInt32.toUInt16.toUInt32.toInt32))) (own_c255 _ : ¬ ((255 : Int32) < ((((x.toUInt32 >>> ((16 : Int32) &&& 31).toUInt32).toInt32) &&& (255 : Int32)).toUInt32.toUInt16.toUInt32.toInt32))) hg1) hZ (hw _ (List.mem_of_getElem? (i := 13) rfl)) (hw _ (List.mem_of_getElem? (i := 9) rfl)) (by decide) (by decide)) (g := (mkF m 114 #[.val (.int x), .val (.int (3 : Int32)), .val (.int ((x &&& (255 : Int32)).toUInt32.toUInt16.toUInt32.toInt32)), .val (.int ((((x.toUInt32 >>> ((8 : Int32) &&& 31).toUInt32).toInt32) &&& (255 : Int32)).toUInt32.toUInt16.toUInt32.toInt32)), .val (.int ((((x.toUInt32 >>> ((16 : Int32) &&& 31).toUInt32).toInt32) &&& (255 : Int32)).toUInt32.toUInt16.toUInt32.toInt32))] [(.ref b192), (.ref b188), (.ref b188)])) rfl (by rw [hml]; rfl) (Steps.refl _) (a := b188) (argsL := [(.ref b192)]) (rest := [(.ref b188)]) (lenOf pd4 rfl) rfl (by show 2 * 0 + _ ≤ _; exact Nat.le_of_eq rfl) (hb hby d_str_114) (fun _ _ => ⟨rfl, e202, (by decide : 2 + 1 ≤ _), (by decide : 7 + 3 ≤ _)⟩)
    dsimp only [Pt.U, Pt.locs, Pt.cells, Pt.slots] at X205 l205 y205 z205 st205 hQ205
    subst l205 y205 z205
    obtain ⟨ob_205, kb_205, rfl, N205q, K205, q205_0, q205_1, q205_2, q205_3, q205_4, q205_5⟩ := hQ205
    have N205 := Fr.app N202 N205q
    have Z205 : n0 ≤ T205.heap.size := Nat.le_trans Z202 K205.1
    have hkk := Nat.le_trans hkk K205.1
    have CR205 := CHr.trans CR202 (CHr.keep K205 (allS sf203 all0) CR202.1)
    have sf211 := Safe.keep K205 (allS sf203 all0) CR202.1 sf203
    have sf212 := Safe.keep K205 (allS sf203 all0) CR202.1 sf204
    have KC205 : Keep h0 T205.heap [] := K202.trans K205 (allS (Or.inr sz188) all0)
    have ne213 : b188 ≠ ob_205 := Nat.ne_of_lt (Nat.lt_of_lt_of_le (f206).lt q205_3)
    have ne214 : b192 ≠ ob_205 := Nat.ne_of_lt (Nat.lt_of_lt_of_le (f210).lt q205_3)
    have ge215 : n0 ≤ ob_205 := Nat.le_trans Z202 q205_3
    have sz216 : h0.size ≤ ob_205 := Nat.le_trans K202.1 q205_3
    refine own_tr st205 ?_
    show own_Got p e below _ T205 (mkF m 117 #[.val (.int x), .val (.int (3 : Int32)), .val (.int ((x &&& (255 : Int32)).toUInt32.toUInt16.toUInt32.toInt32)), .val (.int ((((x.toUInt32 >>> ((8 : Int32) &&& 31).toUInt32).toInt32) &&& (255 : Int32)).toUInt32.toUInt16.toUInt32.toInt32)), .val (.int ((((x.toUInt32 >>> ((16 : Int32) &&& 31).toUInt32).toInt32) &&& (255 : Int32)).toUInt32.toUInt16.toUInt32.toInt32))] [(.ref b188)])
    have o217 : own_st x (3 : Int32) [(.int (((x &&& (255 : Int32)).toUInt32.toUInt16.toUInt32.toInt32).toInt8.toInt32)), (.int (((((x.toUInt32 >>> ((8 : Int32) &&& 31).toUInt32).toInt32) &&& (255 : Int32)).toUInt32.toUInt16.toUInt32.toInt32).toInt8.toInt32)), (.int (((((x.toUInt32 >>> ((16 : Int32) &&& 31).toUInt32).toInt32) &&& (255 : Int32)).toUInt32.toUInt16.toUInt32.toInt32).toInt8.toInt32))] := Or.inr (Or.inr (Or.inr ⟨hk120, rfl, rfl⟩))
    refine own_retRW X205 hx hby hS hkk hZ hEL rfl CR205 hlk hrt rfl d_str_117 (by decide) (by decide) rfl ?_
    show Q_str Z x g1 h0 n0 _ T205.heap _
    exact ⟨b188, ob_205, kb_205, (3 : Int32), [(.int (((x &&& (255 : Int32)).toUInt32.toUInt16.toUInt32.toInt32).toInt8.toInt32)), (.int (((((x.toUInt32 >>> ((8 : Int32) &&& 31).toUInt32).toInt32) &&& (255 : Int32)).toUInt32.toUInt16.toUInt32.toInt32).toInt8.toInt32)), (.int (((((x.toUInt32 >>> ((16 : Int32) &&& 31).toUInt32).toInt32) &&& (255 : Int32)).toUInt32.toUInt16.toUInt32.toInt32).toInt8.toInt32))], rfl, N205, KC205, sz188, q205_0, q205_1, q205_2, q205_5, o217⟩
theorem d_rn2_0 : decode jdk_31_method_11_code 0 = .ok (.aload_n 0, 1) := by decide +kernel
theorem d_rn2_1 : decode jdk_31_method_11_code 1 = .ok (.ifnonnull 12, 3) := by decide +kernel
theorem d_rn2_13 : decode jdk_31_method_11_code 13 = .ok (.aload_n 0, 1) := by decide +kernel
theorem d_rn2_14 : decode jdk_31_method_11_code 14 = .ok (.areturn, 1) := by decide +kernel
theorem pn3 : plainName "java/util/Objects" = true := by first | (simp [plainName, overriddenIn]; done) | decide +kernel
theorem ef_rn2 (m : MethodId) (a0 : Addr) (a1 : Addr) : entryFrame m #[(.ref a0), (.ref a1)] 2 = mkF m 0 #[.val (.ref a0), .val (.ref a1)] [] := by first | (simp [entryFrame, mkF, argsToLocals, Value.category]; done) | rfl
def Q_rn2 (Z : State) (a0 : Addr) (a1 : Addr) (h0 : Heap) (n0 : Nat) (v : Option Value) (h : Heap) (L : List Loc) : Prop := v = some (.ref a0) ∧ Fr n0 L ∧ h = h0
set_option maxRecDepth 65536 in
set_option maxHeartbeats 40000000 in
theorem rm_rn2 (l : Launch) (Z : State) (aT : Array Value) (hw : ∀ d ∈ tables_1, d.before aT Z = true) (ws : List Jvm.Cond) (a0 : Addr) (a1 : Addr) (h0 : Heap) (n0 : Nat) (Z0 : n0 ≤ h0.size) :
    MetFree l (⟨"java/util/Objects", "requireNonNull", "(Ljava/lang/Object;Ljava/lang/String;)Ljava/lang/Object;"⟩ : MethodName) (head1 (Jvm.Cond.code (⟨"java/util/Objects", "requireNonNull", "(Ljava/lang/Object;Ljava/lang/String;)Ljava/lang/Object;"⟩ : MethodName) jdk_31_method_11_code 2 (some (.object "java/lang/Object")) :: ws) ({ frames := 0, cells := 0, slots := 0, locals := 0 } : Room)) (fun a U => a = #[(.ref a0), (.ref a1)] ∧ Z.Warmed39 U.vm ∧ U.heap = h0) (fun _ _ _ _ _ => True) (fun _ U o U' => ∃ v L, o = .returned v ∧ Q_rn2 Z a0 a1 h0 n0 v U'.heap L ∧ FrameEnd U o U' L ({ frames := 0, cells := 0, slots := 0, locals := 0 } : Room).cells ({ frames := 0, cells := 0, slots := 0, locals := 0 } : Room).slots) := by
  refine MetFree.of_bodySF (plainFor_of_name pn3) hisR ?_
  intro p e s m args below meth c s₁ Bd hml0 hP hK
  obtain ⟨rfl, hZ, hh⟩ := hP
  have hx := Bd.exec
  have hby := Bd.bytes
  have hml : c.maxLocals = 2 := hml0
  have hown : s.vm.findClass "java/util/Objects" = some m.cls := findClass_of_methodNamed Bd.named
  have hnm := (name_of_methodNamed Bd.named Bd.method).1
  have hlk := Bd.notSynchronized
  have hrt := Bd.returns
  have X0 : Stand p l e ({ frames := 0, cells := 0, slots := 0, locals := 0 } : Room) s m #[(.ref a0), (.ref a1)] below meth c s₁ [] 0 0 := Stand.of_body Bd
  have e0 : s₁.heap = h0 := by rw [← hh, Bd.state]; rfl
  have N0 := Fr.nil n0
  refine own_cast (P := own_End s (Q_rn2 Z a0 a1 h0 n0) ({ frames := 0, cells := 0, slots := 0, locals := 0 } : Room).cells ({ frames := 0, cells := 0, slots := 0, locals := 0 } : Room).slots) (ef_rn2 m a0 a1) ?_
  refine g_aloadN X0 hx hby d_rn2_0 rfl rfl (rfl : 0 + 1 = 1) ?_
  refine g_innT X0 hx hby d_rn2_1 (by decide) (pc' := 13) (by decide) ?_
  refine g_aloadN X0 hx hby d_rn2_13 rfl rfl (rfl : 13 + 1 = 14) ?_
  refine own_retR X0 hx hby hlk hrt rfl d_rn2_14 (by decide) (by decide) rfl ?_
  show Q_rn2 Z a0 a1 h0 n0 _ s₁.heap _
  exact ⟨rfl, N0, e0⟩
theorem d_pin_0 : decode prog_59_method_1_code 0 = .ok (.aload_n 0, 1) := by decide +kernel
theorem d_pin_1 : decode prog_59_method_1_code 1 = .ok (.invokespecial 1, 3) := by decide +kernel
theorem d_pin_4 : decode prog_59_method_1_code 4 = .ok (.aload_n 0, 1) := by decide +kernel
theorem d_pin_5 : decode prog_59_method_1_code 5 = .ok (.aload_n 1, 1) := by decide +kernel
theorem d_pin_6 : decode prog_59_method_1_code 6 = .ok (.ldc 7, 2) := by decide +kernel
theorem d_pin_8 : decode prog_59_method_1_code 8 = .ok (.invokestatic 9, 3) := by decide +kernel
theorem d_pin_11 : decode prog_59_method_1_code 11 = .ok (.checkcast 15, 3) := by decide +kernel
theorem d_pin_14 : decode prog_59_method_1_code 14 = .ok (.putfield 17, 3) := by decide +kernel
theorem d_pin_17 : decode prog_59_method_1_code 17 = .ok (.aload_n 0, 1) := by decide +kernel
theorem d_pin_18 : decode prog_59_method_1_code 18 = .ok (.aload_n 2, 1) := by decide +kernel
theorem d_pin_19 : decode prog_59_method_1_code 19 = .ok (.ldc 22, 2) := by decide +kernel
theorem d_pin_21 : decode prog_59_method_1_code 21 = .ok (.invokestatic 9, 3) := by decide +kernel
theorem d_pin_24 : decode prog_59_method_1_code 24 = .ok (.checkcast 15, 3) := by decide +kernel
theorem d_pin_27 : decode prog_59_method_1_code 27 = .ok (.putfield 24, 3) := by decide +kernel
theorem d_pin_30 : decode prog_59_method_1_code 30 = .ok (.return_, 1) := by decide +kernel
theorem pn4 : plainName "com/example/forcon/forcon/model/Permission" = true := by first | (simp [plainName, overriddenIn]; done) | decide +kernel
theorem pd5 : parseMethodDescriptor "(Ljava/lang/Object;Ljava/lang/String;)Ljava/lang/Object;" = some ⟨[(.object "java/lang/Object"), (.object "java/lang/String")], some (.object "java/lang/Object")⟩ := by decide +kernel
theorem ef_pin (m : MethodId) (a0 : Addr) (a1 : Addr) (a2 : Addr) : entryFrame m #[(.ref a0), (.ref a1), (.ref a2)] 3 = mkF m 0 #[.val (.ref a0), .val (.ref a1), .val (.ref a2)] [] := by first | (simp [entryFrame, mkF, argsToLocals, Value.category]; done) | rfl
def Q_pin (Z : State) (a0 : Addr) (a1 : Addr) (a2 : Addr) (h0 : Heap) (n0 : Nat) (v : Option Value) (h : Heap) (L : List Loc) : Prop := v = none ∧ Fr n0 L ∧ Keep h0 h [a0] ∧ Exa Z h a0 "com/example/forcon/forcon/model/Permission" ∧ Fld Z h a0 "com/example/forcon/forcon/model/Permission" "operation" "Ljava/lang/String;" (.ref a1) ∧ Fld Z h a0 "com/example/forcon/forcon/model/Permission" "object" "Ljava/lang/String;" (.ref a2)
set_option maxRecDepth 65536 in
set_option maxHeartbeats 40000000 in
theorem rm_pin (l : Launch) (Z : State) (aT : Array Value) (hw : ∀ d ∈ tables_1, d.before aT Z = true) (ws : List Jvm.Cond) (a0 : Addr) (a1 : Addr) (a2 : Addr) (h0 : Heap) (n0 : Nat) (Z0 : n0 ≤ h0.size) (hp0 : Exa Z h0 a0 "com/example/forcon/forcon/model/Permission") (hp1 : Fld Z h0 a0 "com/example/forcon/forcon/model/Permission" "operation" "Ljava/lang/String;" .null) (hp2 : Fld Z h0 a0 "com/example/forcon/forcon/model/Permission" "object" "Ljava/lang/String;" .null) (hp3 : n0 ≤ a0) (hp4 : Exa Z h0 a1 "java/lang/String") (hp5 : Exa Z h0 a2 "java/lang/String") :
    MetFree l (⟨"com/example/forcon/forcon/model/Permission", "<init>", "(Ljava/lang/String;Ljava/lang/String;)V"⟩ : MethodName) (head1 (Jvm.Cond.code (⟨"com/example/forcon/forcon/model/Permission", "<init>", "(Ljava/lang/String;Ljava/lang/String;)V"⟩ : MethodName) prog_59_method_1_code 3 none :: ws) ({ frames := 1, cells := 4, slots := 68, locals := 14 } : Room)) (fun a U => a = #[(.ref a0), (.ref a1), (.ref a2)] ∧ Z.Warmed39 U.vm ∧ U.heap = h0 ∧ CHv Z consts_1 U.vm h0) (fun _ _ _ _ _ => True) (fun _ U o U' => ∃ v L, o = .returned v ∧ Q_pin Z a0 a1 a2 h0 n0 v U'.heap L ∧ CHr Z consts_1 U.vm U.heap U'.vm U'.heap ∧ ReturnedEndW U o U' L ({ frames := 1, cells := 4, slots := 68, locals := 14 } : Room).cells ({ frames := 1, cells := 4, slots := 68, locals := 14 } : Room).slots) := by
  refine MetFree.of_bodySF (plainFor_of_name pn4) hisR ?_
  intro p e s m args below meth c s₁ Bd hml0 hP hK
  obtain ⟨rfl, hZ, hh, CH⟩ := hP
  have hx := Bd.exec
  have hby := Bd.bytes
  have hml : c.maxLocals = 3 := hml0
  have hown : (s.setVm s.vm).vm.findClass "com/example/forcon/forcon/model/Permission" = some m.cls := findClass_of_methodNamed Bd.named
  have hnm := (name_of_methodNamed Bd.named Bd.method).1
  have hlk := Bd.notSynchronized
  have hrt := Bd.returns
  have hZ : Z.Warmed39 (s.setVm s.vm).vm := hZ
  have hS : s.Since s.vm h0.size := (State.WarmedH.refl s).since _
  have hkk : h0.size ≤ h0.size := Nat.le_refl _
  have hEL := own_EL hw
  have CR0 : CHr Z consts_1 s.vm s.heap s.vm h0 := by rw [hh]; exact CHr.refl CH
  have X0 : Stand p l e ({ frames := 1, cells := 4, slots := 68, locals := 14 } : Room) (s.setVm s.vm) m #[(.ref a0), (.ref a1), (.ref a2)] below meth c s₁ [] 0 0 := Stand.of_body Bd
  have e0 : s₁.heap = h0 := by rw [← hh, Bd.state]; rfl
  have N0 := Fr.nil n0
  refine own_cast (P := own_EndW Z consts_1 s (Q_pin Z a0 a1 a2 h0 n0) ({ frames := 1, cells := 4, slots := 68, locals := 14 } : Room).cells ({ frames := 1, cells := 4, slots := 68, locals := 14 } : Room).slots) (ef_pin m a0 a1 a2) ?_
  refine g_aloadN X0 hx hby d_pin_0 rfl rfl (rfl : 0 + 1 = 1) ?_
  obtain ⟨T218, X218, e218, st218⟩ := initO X0 hx hZ hown (hw _ (List.mem_of_getElem? (i := 32) rfl)) (hw _ (List.mem_of_getElem? (i := 19) rfl)) (hw _ (List.mem_of_getElem? (i := 20) rfl)) e0 (g := (mkF m 1 #[.val (.ref a0), .val (.ref a1), .val (.ref a2)] [(.ref a0)])) rfl (by rw [hml]; rfl) rfl (hb hby d_pin_1) (by decide) (W := 0) (by show 2 * 0 + _ ≤ _; exact Nat.le_of_eq rfl) (by decide)
  refine own_go st218 ?_
  show own_Got p e below _ T218 (mkF m 4 #[.val (.ref a0), .val (.ref a1), .val (.ref a2)] [])
  refine g_aloadN X218 hx hby d_pin_4 rfl rfl (rfl : 4 + 1 = 5) ?_
  refine g_aloadN X218 hx hby d_pin_5 rfl rfl (rfl : 5 + 1 = 6) ?_
  obtain ⟨b219, T219, h219, k1219, d219, k219, X219, e219, E219, hS, hkk219, hZ, hown, A219, fc219, fv219, V219, -, -, C219, -, ns219, st219⟩ := ldcCH X218 hx hZ hown (hw _ (List.mem_of_getElem? (i := 33) rfl)) (own_wS hw) e218 hS hkk hEL (List.mem_of_getElem? (i := 0) rfl) CR0.1 (vs := [(.int (111 : Int32)), (.int (112 : Int32)), (.int (101 : Int32)), (.int (114 : Int32)), (.int (97 : Int32)), (.int (116 : Int32)), (.int (105 : Int32)), (.int (111 : Int32)), (.int (110 : Int32))]) (z := (9 : Int32)) ⟨by decide +kernel, by decide +kernel⟩ (by decide) (by decide) (g := (mkF m 6 #[.val (.ref a0), .val (.ref a1), .val (.ref a2)] [(.ref a1), (.ref a0)])) rfl (hb hby d_pin_6) (n := 36) (by decide +kernel) (by decide) (by decide) (by decide)
  have Z219 : n0 ≤ h219.size := Nat.le_trans Z0 E219.1
  have K219 : Keep h0 h219 [a0] := (Keep.refl h0 [a0]).ext E219
  have hkk := Nat.le_trans hkk (Nat.le_refl _)
  have CR219 := CHr.trans CR0 (C219)
  have hkk := hkk219
  have f221 : Exa Z h219 a0 "com/example/forcon/forcon/model/Permission" := (Exa.ext E219 hp0)
  have ns220 := ns219 a0 (Safe.exa hZ.alike f221 (by decide) (by decide))
  refine own_go st219 ?_
  show own_Got p e below _ T219 (mkF m 8 #[.val (.ref a0), .val (.ref a1), .val (.ref a2)] [(.ref b219), (.ref a1), (.ref a0)])
  obtain ⟨_, _, ⟨T222, L222, k222, n222⟩, -, X222, ⟨Lc222, hQ222, l222, y222, z222⟩, st222⟩ := Jvm.LawKit.callS X219 hx (y := (⟨"java/util/Objects", "requireNonNull", "(Ljava/lang/Object;Ljava/lang/String;)Ljava/lang/Object;"⟩ : MethodName)) hown (mvT hZ (hw _ (List.mem_of_getElem? (i := 34) rfl))) (mvT hZ (hw _ (List.mem_of_getElem? (i := 35) rfl))) (mvT hZ (hw _ (List.mem_of_getElem? (i := 36) rfl))) (mvT hZ (hw _ (List.mem_of_getElem? (i := 37) rfl))) (by decide) (backOf (W := 1) (rm_rn2 l Z aT hw [] a1 b219 h219 n0 Z219) hZ (hw _ (List.mem_of_getElem? (i := 37) rfl)) (hw _ (List.mem_of_getElem? (i := 36) rfl)) (by decide) (by decide)) (g := (mkF m 8 #[.val (.ref a0), .val (.ref a1), .val (.ref a2)] [(.ref b219), (.ref a1), (.ref a0)])) rfl (by rw [hml]; rfl) (argsL := [(.ref a1), (.ref b219)]) (rest := [(.ref a0)]) (lenOf pd5 rfl) rfl (by show 2 * 0 + _ ≤ _; exact Nat.le_of_eq rfl) (hb hby d_pin_8) (fun _ _ => ⟨rfl, e219, (by decide : 2 + 0 ≤ _), (by decide : 40 + 0 ≤ _)⟩)
  dsimp only [Pt.U, Pt.locs, Pt.cells, Pt.slots] at X222 l222 y222 z222 st222 hQ222
  subst l222 y222 z222
  obtain ⟨rfl, N222q, eq222⟩ := hQ222
  have N222 := Fr.app N0 N222q
  refine own_go st222 ?_
  show own_Got p e below _ T222 (mkF m 11 #[.val (.ref a0), .val (.ref a1), .val (.ref a2)] [(.ref a1), (.ref a0)])
  have f224 : Exa Z h219 a1 "java/lang/String" := (Exa.ext E219 hp4)
  obtain ⟨T223, X223, e223, st223⟩ := castY X222 hx hZ hown (hw _ (List.mem_of_getElem? (i := 38) rfl)) eq222 (Ins.self f224) (g := (mkF m 11 #[.val (.ref a0), .val (.ref a1), .val (.ref a2)] [(.ref a1), (.ref a0)])) rfl rfl (hb hby d_pin_11)
  refine own_go st223 ?_
  show own_Got p e below _ T223 (mkF m 14 #[.val (.ref a0), .val (.ref a1), .val (.ref a2)] [(.ref a1), (.ref a0)])
  have f225 : Fld Z h219 a0 "com/example/forcon/forcon/model/Permission" "operation" "Ljava/lang/String;" .null := (Fld.ext E219 hp1)
  obtain ⟨T226, h226, X226, e226, W226, st226⟩ := putF X223 hx hZ hown (host := "") (Or.inl (hw _ (List.mem_of_getElem? (i := 39) rfl))) Via.refl e223 f225 f221 (Or.inr ⟨(hw _ (List.mem_of_getElem? (i := 40) rfl)), rfl, hnm⟩) (hw _ (List.mem_of_getElem? (i := 1) rfl)) (ty := (.object "java/lang/String")) (by decide) rfl rfl (g := (mkF m 14 #[.val (.ref a0), .val (.ref a1), .val (.ref a2)] [(.ref a1), (.ref a0)])) rfl rfl (hb hby d_pin_14)
  have Z226 : n0 ≤ h226.size := Nat.le_trans Z219 (Keep.of_wr W226).1
  have hkk := Nat.le_trans hkk (Keep.of_wr W226).1
  have CR226 := CHr.trans CR219 (CHr.wr W226 (Safe.exa hZ.alike f221 (by decide) (by decide)) CR219.1)
  have N226 := Fr.snoc X226 N222 hp3
  have K226 : Keep h0 h226 [a0] := K219.wr W226 (Or.inl (List.mem_of_getElem? (i := 0) rfl))
  have f226 : Fld Z h226 a0 "com/example/forcon/forcon/model/Permission" "operation" "Ljava/lang/String;" (.ref a1) := Fld.same W226 f225
  refine own_go st226 ?_
  show own_Got p e below _ T226 (mkF m 17 #[.val (.ref a0), .val (.ref a1), .val (.ref a2)] [])
  refine g_aloadN X226 hx hby d_pin_17 rfl rfl (rfl : 17 + 1 = 18) ?_
  refine g_aloadN X226 hx hby d_pin_18 rfl rfl (rfl : 18 + 1 = 19) ?_
  have f228 : Exa Z h226 a0 "com/example/forcon/forcon/model/Permission" := (Exa.wr W226 f221)
  obtain ⟨b227, T227, h227, k1227, d227, k227, X227, e227, E227, hS, hkk227, hZ, hown, A227, fc227, fv227, V227, -, -, C227, -, ns227, st227⟩ := ldcCH X226 hx hZ hown (hw _ (List.mem_of_getElem? (i := 41) rfl)) (own_wS hw) e226 hS hkk hEL (List.mem_of_getElem? (i := 1) rfl) CR226.1 (vs := [(.int (111 : Int32)), (.int (98 : Int32)), (.int (106 : Int32)), (.int (101 : Int32)), (.int (99 : Int32)), (.int (116 : Int32))]) (z := (6 : Int32)) ⟨by decide +kernel, by decide +kernel⟩ (by decide) (by decide) (g := (mkF m 19 #[.val (.ref a0), .val (.ref a1), .val (.ref a2)] [(.ref a2), (.ref a0)])) rfl (hb hby d_pin_19) (n := 24) (by decide +kernel) (by decide) (by decide) (by decide)
  have Z227 : n0 ≤ h227.size := Nat.le_trans Z226 E227.1
  have K227 : Keep h0 h227 [a0] := K226.ext E227
  have hkk := Nat.le_trans hkk (Nat.le_refl _)
  have CR227 := CHr.trans CR226 (C227)
  have hkk := hkk227
  have f230 : Exa Z h227 a0 "com/example/forcon/forcon/model/Permission" := (Exa.ext E227 f228)
  have ns229 := ns227 a0 (Safe.exa hZ.alike f230 (by decide) (by decide))
  refine own_go st227 ?_
  show own_Got p e below _ T227 (mkF m 21 #[.val (.ref a0), .val (.ref a1), .val (.ref a2)] [(.ref b227), (.ref a2), (.ref a0)])
  obtain ⟨_, _, ⟨T231, L231, k231, n231⟩, -, X231, ⟨Lc231, hQ231, l231, y231, z231⟩, st231⟩ := Jvm.LawKit.callS X227 hx (y := (⟨"java/util/Objects", "requireNonNull", "(Ljava/lang/Object;Ljava/lang/String;)Ljava/lang/Object;"⟩ : MethodName)) hown (mvT hZ (hw _ (List.mem_of_getElem? (i := 34) rfl))) (mvT hZ (hw _ (List.mem_of_getElem? (i := 35) rfl))) (mvT hZ (hw _ (List.mem_of_getElem? (i := 36) rfl))) (mvT hZ (hw _ (List.mem_of_getElem? (i := 37) rfl))) (by decide) (backOf (W := 1) (rm_rn2 l Z aT hw [] a2 b227 h227 n0 Z227) hZ (hw _ (List.mem_of_getElem? (i := 37) rfl)) (hw _ (List.mem_of_getElem? (i := 36) rfl)) (by decide) (by decide)) (g := (mkF m 21 #[.val (.ref a0), .val (.ref a1), .val (.ref a2)] [(.ref b227), (.ref a2), (.ref a0)])) rfl (by rw [hml]; rfl) (argsL := [(.ref a2), (.ref b227)]) (rest := [(.ref a0)]) (lenOf pd5 rfl) rfl (by show 2 * 0 + _ ≤ _; exact Nat.le_of_eq rfl) (hb hby d_pin_21) (fun _ _ => ⟨rfl, e227, (by decide : 4 + 0 ≤ _), (by decide : 68 + 0 ≤ _)⟩)
  dsimp only [Pt.U, Pt.locs, Pt.cells, Pt.slots] at X231 l231 y231 z231 st231 hQ231
  subst l231 y231 z231
  obtain ⟨rfl, N231q, eq231⟩ := hQ231
  have N231 := Fr.app N226 N231q
  refine own_go st231 ?_
  show own_Got p e below _ T231 (mkF m 24 #[.val (.ref a0), .val (.ref a1), .val (.ref a2)] [(.ref a2), (.ref a0)])
  have f233 : Exa Z h227 a2 "java/lang/String" := (Exa.ext E227 (Exa.wr W226 (Exa.ext E219 hp5)))
  obtain ⟨T232, X232, e232, st232⟩ := castY X231 hx hZ hown (hw _ (List.mem_of_getElem? (i := 38) rfl)) eq231 (Ins.self f233) (g := (mkF m 24 #[.val (.ref a0), .val (.ref a1), .val (.ref a2)] [(.ref a2), (.ref a0)])) rfl rfl (hb hby d_pin_24)
  refine own_go st232 ?_
  show own_Got p e below _ T232 (mkF m 27 #[.val (.ref a0), .val (.ref a1), .val (.ref a2)] [(.ref a2), (.ref a0)])
  have f234 : Fld Z h227 a0 "com/example/forcon/forcon/model/Permission" "object" "Ljava/lang/String;" .null := (Fld.ext E227 (Fld.other W226 (Fld.ext E219 hp2) (Or.inr (slot_ne (Or.inr (hw _ (List.mem_of_getElem? (i := 43) rfl))) (Or.inr (hw _ (List.mem_of_getElem? (i := 40) rfl))) (by decide) (t := (.object "java/lang/String")) (t' := (.object "java/lang/String")) (by decide) (by decide)))))
  obtain ⟨T235, h235, X235, e235, W235, st235⟩ := putF X232 hx hZ hown (host := "") (Or.inl (hw _ (List.mem_of_getElem? (i := 42) rfl))) Via.refl e232 f234 f230 (Or.inr ⟨(hw _ (List.mem_of_getElem? (i := 43) rfl)), rfl, hnm⟩) (hw _ (List.mem_of_getElem? (i := 1) rfl)) (ty := (.object "java/lang/String")) (by decide) rfl rfl (g := (mkF m 27 #[.val (.ref a0), .val (.ref a1), .val (.ref a2)] [(.ref a2), (.ref a0)])) rfl rfl (hb hby d_pin_27)
  have Z235 : n0 ≤ h235.size := Nat.le_trans Z227 (Keep.of_wr W235).1
  have hkk := Nat.le_trans hkk (Keep.of_wr W235).1
  have CR235 := CHr.trans CR227 (CHr.wr W235 (Safe.exa hZ.alike f230 (by decide) (by decide)) CR227.1)
  have N235 := Fr.snoc X235 N231 hp3
  have K235 : Keep h0 h235 [a0] := K227.wr W235 (Or.inl (List.mem_of_getElem? (i := 0) rfl))
  have f235 : Fld Z h235 a0 "com/example/forcon/forcon/model/Permission" "object" "Ljava/lang/String;" (.ref a2) := Fld.same W235 f234
  refine own_go st235 ?_
  show own_Got p e below _ T235 (mkF m 30 #[.val (.ref a0), .val (.ref a1), .val (.ref a2)] [])
  have f236 : Exa Z h235 a0 "com/example/forcon/forcon/model/Permission" := (Exa.wr W235 f230)
  have f237 : Fld Z h235 a0 "com/example/forcon/forcon/model/Permission" "operation" "Ljava/lang/String;" (.ref a1) := (Fld.other W235 (Fld.ext E227 f226) (Or.inr (slot_ne (Or.inr (hw _ (List.mem_of_getElem? (i := 40) rfl))) (Or.inr (hw _ (List.mem_of_getElem? (i := 43) rfl))) (by decide) (t := (.object "java/lang/String")) (t' := (.object "java/lang/String")) (by decide) (by decide))))
  refine own_retVW X235 hx hby hS hkk hZ hEL e235 CR235 hlk hrt d_pin_30 (by decide) (by decide) ?_
  show Q_pin Z a0 a1 a2 h0 n0 _ T235.heap _
  rw [e235]
  exact ⟨rfl, N235, K235, f236, f237, f235⟩
theorem d_sam_0 : decode method_4_code 0 = .ok (.iload_n 0, 1) := by decide +kernel
theorem d_sam_1 : decode method_4_code 1 = .ok (.bipush 24, 2) := by decide +kernel
theorem d_sam_3 : decode method_4_code 3 = .ok (.iushr, 1) := by decide +kernel
theorem d_sam_4 : decode method_4_code 4 = .ok (.iconst 3, 1) := by decide +kernel
theorem d_sam_5 : decode method_4_code 5 = .ok (.iand, 1) := by decide +kernel
theorem d_sam_6 : decode method_4_code 6 = .ok (.istore_n 2, 1) := by decide +kernel
theorem d_sam_7 : decode method_4_code 7 = .ok (.iload_n 1, 1) := by decide +kernel
theorem d_sam_8 : decode method_4_code 8 = .ok (.bipush 24, 2) := by decide +kernel
theorem d_sam_10 : decode method_4_code 10 = .ok (.iushr, 1) := by decide +kernel
theorem d_sam_11 : decode method_4_code 11 = .ok (.iconst 3, 1) := by decide +kernel
theorem d_sam_12 : decode method_4_code 12 = .ok (.iand, 1) := by decide +kernel
theorem d_sam_13 : decode method_4_code 13 = .ok (.istore_n 3, 1) := by decide +kernel
theorem d_sam_14 : decode method_4_code 14 = .ok (.iload_n 2, 1) := by decide +kernel
theorem d_sam_15 : decode method_4_code 15 = .ok (.iload_n 3, 1) := by decide +kernel
theorem d_sam_16 : decode method_4_code 16 = .ok (.if_icmp .eq 5, 3) := by decide +kernel
theorem d_sam_19 : decode method_4_code 19 = .ok (.iconst 0, 1) := by decide +kernel
theorem d_sam_20 : decode method_4_code 20 = .ok (.ireturn, 1) := by decide +kernel
theorem d_sam_21 : decode method_4_code 21 = .ok (.iload_n 2, 1) := by decide +kernel
theorem d_sam_22 : decode method_4_code 22 = .ok (.iconst 1, 1) := by decide +kernel
theorem d_sam_23 : decode method_4_code 23 = .ok (.if_icmp .lt 18, 3) := by decide +kernel
theorem d_sam_26 : decode method_4_code 26 = .ok (.iload_n 0, 1) := by decide +kernel
theorem d_sam_27 : decode method_4_code 27 = .ok (.sipush 255, 3) := by decide +kernel
theorem d_sam_30 : decode method_4_code 30 = .ok (.iand, 1) := by decide +kernel
theorem d_sam_31 : decode method_4_code 31 = .ok (.iload_n 1, 1) := by decide +kernel
theorem d_sam_32 : decode method_4_code 32 = .ok (.sipush 255, 3) := by decide +kernel
theorem d_sam_35 : decode method_4_code 35 = .ok (.iand, 1) := by decide +kernel
theorem d_sam_36 : decode method_4_code 36 = .ok (.if_icmp .eq 5, 3) := by decide +kernel
theorem d_sam_39 : decode method_4_code 39 = .ok (.iconst 0, 1) := by decide +kernel
theorem d_sam_40 : decode method_4_code 40 = .ok (.ireturn, 1) := by decide +kernel
theorem d_sam_41 : decode method_4_code 41 = .ok (.iload_n 2, 1) := by decide +kernel
theorem d_sam_42 : decode method_4_code 42 = .ok (.iconst 2, 1) := by decide +kernel
theorem d_sam_43 : decode method_4_code 43 = .ok (.if_icmp .lt 24, 3) := by decide +kernel
theorem d_sam_46 : decode method_4_code 46 = .ok (.iload_n 0, 1) := by decide +kernel
theorem d_sam_47 : decode method_4_code 47 = .ok (.bipush 8, 2) := by decide +kernel
theorem d_sam_49 : decode method_4_code 49 = .ok (.iushr, 1) := by decide +kernel
theorem d_sam_50 : decode method_4_code 50 = .ok (.sipush 255, 3) := by decide +kernel
theorem d_sam_53 : decode method_4_code 53 = .ok (.iand, 1) := by decide +kernel
theorem d_sam_54 : decode method_4_code 54 = .ok (.iload_n 1, 1) := by decide +kernel
theorem d_sam_55 : decode method_4_code 55 = .ok (.bipush 8, 2) := by decide +kernel
theorem d_sam_57 : decode method_4_code 57 = .ok (.iushr, 1) := by decide +kernel
theorem d_sam_58 : decode method_4_code 58 = .ok (.sipush 255, 3) := by decide +kernel
theorem d_sam_61 : decode method_4_code 61 = .ok (.iand, 1) := by decide +kernel
theorem d_sam_62 : decode method_4_code 62 = .ok (.if_icmp .eq 5, 3) := by decide +kernel
theorem d_sam_65 : decode method_4_code 65 = .ok (.iconst 0, 1) := by decide +kernel
theorem d_sam_66 : decode method_4_code 66 = .ok (.ireturn, 1) := by decide +kernel
theorem d_sam_67 : decode method_4_code 67 = .ok (.iload_n 2, 1) := by decide +kernel
theorem d_sam_68 : decode method_4_code 68 = .ok (.iconst 3, 1) := by decide +kernel
theorem d_sam_69 : decode method_4_code 69 = .ok (.if_icmp .lt 24, 3) := by decide +kernel
theorem d_sam_72 : decode method_4_code 72 = .ok (.iload_n 0, 1) := by decide +kernel
theorem d_sam_73 : decode method_4_code 73 = .ok (.bipush 16, 2) := by decide +kernel
theorem d_sam_75 : decode method_4_code 75 = .ok (.iushr, 1) := by decide +kernel
theorem d_sam_76 : decode method_4_code 76 = .ok (.sipush 255, 3) := by decide +kernel
theorem d_sam_79 : decode method_4_code 79 = .ok (.iand, 1) := by decide +kernel
theorem d_sam_80 : decode method_4_code 80 = .ok (.iload_n 1, 1) := by decide +kernel
theorem d_sam_81 : decode method_4_code 81 = .ok (.bipush 16, 2) := by decide +kernel
theorem d_sam_83 : decode method_4_code 83 = .ok (.iushr, 1) := by decide +kernel
theorem d_sam_84 : decode method_4_code 84 = .ok (.sipush 255, 3) := by decide +kernel
theorem d_sam_87 : decode method_4_code 87 = .ok (.iand, 1) := by decide +kernel
theorem d_sam_88 : decode method_4_code 88 = .ok (.if_icmp .eq 5, 3) := by decide +kernel
theorem d_sam_91 : decode method_4_code 91 = .ok (.iconst 0, 1) := by decide +kernel
theorem d_sam_92 : decode method_4_code 92 = .ok (.ireturn, 1) := by decide +kernel
theorem d_sam_93 : decode method_4_code 93 = .ok (.iconst 1, 1) := by decide +kernel
theorem d_sam_94 : decode method_4_code 94 = .ok (.ireturn, 1) := by decide +kernel
theorem ef_sam (m : MethodId) (x : Int32) (y : Int32) : entryFrame m #[(.int x), (.int y)] 4 = mkF m 0 #[.val (.int x), .val (.int y), .unset, .unset] [] := by first | (simp [entryFrame, mkF, argsToLocals, Value.category]; done) | rfl
def F_sam (x : Int32) (y : Int32) : Int32 := if (((x.toUInt32 >>> ((24 : Int32) &&& 31).toUInt32).toInt32) &&& (3 : Int32)) = (((y.toUInt32 >>> ((24 : Int32) &&& 31).toUInt32).toInt32) &&& (3 : Int32)) then (if (((x.toUInt32 >>> ((24 : Int32) &&& 31).toUInt32).toInt32) &&& (3 : Int32)) < (1 : Int32) then (if (((x.toUInt32 >>> ((24 : Int32) &&& 31).toUInt32).toInt32) &&& (3 : Int32)) < (2 : Int32) then (if (((x.toUInt32 >>> ((24 : Int32) &&& 31).toUInt32).toInt32) &&& (3 : Int32)) < (3 : Int32) then ((1 : Int32)) else (if (((x.toUInt32 >>> ((16 : Int32) &&& 31).toUInt32).toInt32) &&& (255 : Int32)) = (((y.toUInt32 >>> ((16 : Int32) &&& 31).toUInt32).toInt32) &&& (255 : Int32)) then ((1 : Int32)) else ((0 : Int32)))) else (if (((x.toUInt32 >>> ((8 : Int32) &&& 31).toUInt32).toInt32) &&& (255 : Int32)) = (((y.toUInt32 >>> ((8 : Int32) &&& 31).toUInt32).toInt32) &&& (255 : Int32)) then (if (((x.toUInt32 >>> ((24 : Int32) &&& 31).toUInt32).toInt32) &&& (3 : Int32)) < (3 : Int32) then ((1 : Int32)) else (if (((x.toUInt32 >>> ((16 : Int32) &&& 31).toUInt32).toInt32) &&& (255 : Int32)) = (((y.toUInt32 >>> ((16 : Int32) &&& 31).toUInt32).toInt32) &&& (255 : Int32)) then ((1 : Int32)) else ((0 : Int32)))) else ((0 : Int32)))) else (if (x &&& (255 : Int32)) = (y &&& (255 : Int32)) then (if (((x.toUInt32 >>> ((24 : Int32) &&& 31).toUInt32).toInt32) &&& (3 : Int32)) < (2 : Int32) then (if (((x.toUInt32 >>> ((24 : Int32) &&& 31).toUInt32).toInt32) &&& (3 : Int32)) < (3 : Int32) then ((1 : Int32)) else (if (((x.toUInt32 >>> ((16 : Int32) &&& 31).toUInt32).toInt32) &&& (255 : Int32)) = (((y.toUInt32 >>> ((16 : Int32) &&& 31).toUInt32).toInt32) &&& (255 : Int32)) then ((1 : Int32)) else ((0 : Int32)))) else (if (((x.toUInt32 >>> ((8 : Int32) &&& 31).toUInt32).toInt32) &&& (255 : Int32)) = (((y.toUInt32 >>> ((8 : Int32) &&& 31).toUInt32).toInt32) &&& (255 : Int32)) then (if (((x.toUInt32 >>> ((24 : Int32) &&& 31).toUInt32).toInt32) &&& (3 : Int32)) < (3 : Int32) then ((1 : Int32)) else (if (((x.toUInt32 >>> ((16 : Int32) &&& 31).toUInt32).toInt32) &&& (255 : Int32)) = (((y.toUInt32 >>> ((16 : Int32) &&& 31).toUInt32).toInt32) &&& (255 : Int32)) then ((1 : Int32)) else ((0 : Int32)))) else ((0 : Int32)))) else ((0 : Int32)))) else ((0 : Int32))
def Q_sam (Z : State) (x : Int32) (y : Int32) (h0 : Heap) (n0 : Nat) (v : Option Value) (h : Heap) (L : List Loc) : Prop := v = some (.int (F_sam x y)) ∧ Fr n0 L ∧ h = h0
set_option maxRecDepth 65536 in
set_option maxHeartbeats 40000000 in
theorem rm_sam (l : Launch) (Z : State) (aT : Array Value) (hw : ∀ d ∈ tables_1, d.before aT Z = true) (ws : List Jvm.Cond) (x : Int32) (y : Int32) (h0 : Heap) (n0 : Nat) (Z0 : n0 ≤ h0.size) :
    MetFree l (⟨"com/example/forcon/forcon/model/PermissionEqualsPinLaw", "same", "(II)Z"⟩ : MethodName) (head1 (Jvm.Cond.code (⟨"com/example/forcon/forcon/model/PermissionEqualsPinLaw", "same", "(II)Z"⟩ : MethodName) method_4_code 4 (some .boolean) :: ws) ({ frames := 0, cells := 0, slots := 0, locals := 0 } : Room)) (fun a U => a = #[(.int x), (.int y)] ∧ Z.Warmed39 U.vm ∧ U.heap = h0) (fun _ _ _ _ _ => True) (fun _ U o U' => ∃ v L, o = .returned v ∧ Q_sam Z x y h0 n0 v U'.heap L ∧ FrameEnd U o U' L ({ frames := 0, cells := 0, slots := 0, locals := 0 } : Room).cells ({ frames := 0, cells := 0, slots := 0, locals := 0 } : Room).slots) := by
  refine MetFree.of_bodySF (plainFor_of_name pn2) hisR ?_
  intro p e s m args below meth c s₁ Bd hml0 hP hK
  obtain ⟨rfl, hZ, hh⟩ := hP
  have hx := Bd.exec
  have hby := Bd.bytes
  have hml : c.maxLocals = 4 := hml0
  have hown : s.vm.findClass "com/example/forcon/forcon/model/PermissionEqualsPinLaw" = some m.cls := findClass_of_methodNamed Bd.named
  have hnm := (name_of_methodNamed Bd.named Bd.method).1
  have hlk := Bd.notSynchronized
  have hrt := Bd.returns
  have X0 : Stand p l e ({ frames := 0, cells := 0, slots := 0, locals := 0 } : Room) s m #[(.int x), (.int y)] below meth c s₁ [] 0 0 := Stand.of_body Bd
  have e0 : s₁.heap = h0 := by rw [← hh, Bd.state]; rfl
  have N0 := Fr.nil n0
  refine own_cast (P := own_End s (Q_sam Z x y h0 n0) ({ frames := 0, cells := 0, slots := 0, locals := 0 } : Room).cells ({ frames := 0, cells := 0, slots := 0, locals := 0 } : Room).slots) (ef_sam m x y) ?_
  refine g_iloadN X0 hx hby d_sam_0 rfl (rfl : 0 + 1 = 1) ?_
  refine g_bipush X0 hx hby (24 : Int32) d_sam_1 (by decide) (rfl : 1 + 2 = 3) ?_
  refine g_iushr X0 hx hby d_sam_3 (rfl : 3 + 1 = 4) ?_
  refine g_iconst X0 hx hby (3 : Int32) d_sam_4 (by decide) (rfl : 4 + 1 = 5) ?_
  refine g_iand X0 hx hby d_sam_5 (rfl : 5 + 1 = 6) ?_
  refine g_istoreN X0 hx hby #[.val (.int x), .val (.int y), .val (.int (((x.toUInt32 >>> ((24 : Int32) &&& 31).toUInt32).toInt32) &&& (3 : Int32))), .unset] d_sam_6 rfl (rfl : 6 + 1 = 7) ?_
  refine g_iloadN X0 hx hby d_sam_7 rfl (rfl : 7 + 1 = 8) ?_
  refine g_bipush X0 hx hby (24 : Int32) d_sam_8 (by decide) (rfl : 8 + 2 = 10) ?_
  refine g_iushr X0 hx hby d_sam_10 (rfl : 10 + 1 = 11) ?_
  refine g_iconst X0 hx hby (3 : Int32) d_sam_11 (by decide) (rfl : 11 + 1 = 12) ?_
  refine g_iand X0 hx hby d_sam_12 (rfl : 12 + 1 = 13) ?_
  refine g_istoreN X0 hx hby #[.val (.int x), .val (.int y), .val (.int (((x.toUInt32 >>> ((24 : Int32) &&& 31).toUInt32).toInt32) &&& (3 : Int32))), .val (.int (((y.toUInt32 >>> ((24 : Int32) &&& 31).toUInt32).toInt32) &&& (3 : Int32)))] d_sam_13 rfl (rfl : 13 + 1 = 14) ?_
  refine g_iloadN X0 hx hby d_sam_14 rfl (rfl : 14 + 1 = 15) ?_
  refine g_iloadN X0 hx hby d_sam_15 rfl (rfl : 15 + 1 = 16) ?_
  by_cases c238 : (((x.toUInt32 >>> ((24 : Int32) &&& 31).toUInt32).toInt32) &&& (3 : Int32)) = (((y.toUInt32 >>> ((24 : Int32) &&& 31).toUInt32).toInt32) &&& (3 : Int32))
  · refine g_icT X0 hx hby d_sam_16 (teq c238).1 (by decide) (pc' := 21) (by decide) ?_
    refine g_iloadN X0 hx hby d_sam_21 rfl (rfl : 21 + 1 = 22) ?_
    refine g_iconst X0 hx hby (1 : Int32) d_sam_22 (by decide) (rfl : 22 + 1 = 23) ?_
    by_cases c239 : (((x.toUInt32 >>> ((24 : Int32) &&& 31).toUInt32).toInt32) &&& (3 : Int32)) < (1 : Int32)
    · refine g_icT X0 hx hby d_sam_23 (tlt c239).1 (by decide) (pc' := 41) (by decide) ?_
      refine g_iloadN X0 hx hby d_sam_41 rfl (rfl : 41 + 1 = 42) ?_
      refine g_iconst X0 hx hby (2 : Int32) d_sam_42 (by decide) (rfl : 42 + 1 = 43) ?_
      by_cases c240 : (((x.toUInt32 >>> ((24 : Int32) &&& 31).toUInt32).toInt32) &&& (3 : Int32)) < (2 : Int32)
      · refine g_icT X0 hx hby d_sam_43 (tlt c240).1 (by decide) (pc' := 67) (by decide) ?_
        refine g_iloadN X0 hx hby d_sam_67 rfl (rfl : 67 + 1 = 68) ?_
        refine g_iconst X0 hx hby (3 : Int32) d_sam_68 (by decide) (rfl : 68 + 1 = 69) ?_
        by_cases c241 : (((x.toUInt32 >>> ((24 : Int32) &&& 31).toUInt32).toInt32) &&& (3 : Int32)) < (3 : Int32)
        · refine g_icT X0 hx hby d_sam_69 (tlt c241).1 (by decide) (pc' := 93) (by decide) ?_
          refine g_iconst X0 hx hby (1 : Int32) d_sam_93 (by decide) (rfl : 93 + 1 = 94) ?_
          refine own_retN X0 hx hby hlk (t := .boolean) hrt (by simp) d_sam_94 (by decide) (by decide) ?_
          show Q_sam Z x y h0 n0 _ s₁.heap _
          exact ⟨(congrArg (fun z => some (Value.int z)) (by rw [F_sam, if_pos c238, if_pos c239, if_pos c240, if_pos c241] <;> rfl)), N0, e0⟩
        · refine g_icF X0 hx hby d_sam_69 (flt c241).1 (rfl : 69 + 3 = 72) ?_
          refine g_iloadN X0 hx hby d_sam_72 rfl (rfl : 72 + 1 = 73) ?_
          refine g_bipush X0 hx hby (16 : Int32) d_sam_73 (by decide) (rfl : 73 + 2 = 75) ?_
          refine g_iushr X0 hx hby d_sam_75 (rfl : 75 + 1 = 76) ?_
          refine g_sipush X0 hx hby (255 : Int32) d_sam_76 (by decide) (rfl : 76 + 3 = 79) ?_
          refine g_iand X0 hx hby d_sam_79 (rfl : 79 + 1 = 80) ?_
          refine g_iloadN X0 hx hby d_sam_80 rfl (rfl : 80 + 1 = 81) ?_
          refine g_bipush X0 hx hby (16 : Int32) d_sam_81 (by decide) (rfl : 81 + 2 = 83) ?_
          refine g_iushr X0 hx hby d_sam_83 (rfl : 83 + 1 = 84) ?_
          refine g_sipush X0 hx hby (255 : Int32) d_sam_84 (by decide) (rfl : 84 + 3 = 87) ?_
          refine g_iand X0 hx hby d_sam_87 (rfl : 87 + 1 = 88) ?_
          by_cases c242 : (((x.toUInt32 >>> ((16 : Int32) &&& 31).toUInt32).toInt32) &&& (255 : Int32)) = (((y.toUInt32 >>> ((16 : Int32) &&& 31).toUInt32).toInt32) &&& (255 : Int32))
          · refine g_icT X0 hx hby d_sam_88 (teq c242).1 (by decide) (pc' := 93) (by decide) ?_
            refine g_iconst X0 hx hby (1 : Int32) d_sam_93 (by decide) (rfl : 93 + 1 = 94) ?_
            refine own_retN X0 hx hby hlk (t := .boolean) hrt (by simp) d_sam_94 (by decide) (by decide) ?_
            show Q_sam Z x y h0 n0 _ s₁.heap _
            exact ⟨(congrArg (fun z => some (Value.int z)) (by rw [F_sam, if_pos c238, if_pos c239, if_pos c240, if_neg c241, if_pos c242] <;> rfl)), N0, e0⟩
          · refine g_icF X0 hx hby d_sam_88 (feq c242).1 (rfl : 88 + 3 = 91) ?_
            refine g_iconst X0 hx hby (0 : Int32) d_sam_91 (by decide) (rfl : 91 + 1 = 92) ?_
            refine own_retN X0 hx hby hlk (t := .boolean) hrt (by simp) d_sam_92 (by decide) (by decide) ?_
            show Q_sam Z x y h0 n0 _ s₁.heap _
            exact ⟨(congrArg (fun z => some (Value.int z)) (by rw [F_sam, if_pos c238, if_pos c239, if_pos c240, if_neg c241, if_neg c242] <;> rfl)), N0, e0⟩
      · refine g_icF X0 hx hby d_sam_43 (flt c240).1 (rfl : 43 + 3 = 46) ?_
        refine g_iloadN X0 hx hby d_sam_46 rfl (rfl : 46 + 1 = 47) ?_
        refine g_bipush X0 hx hby (8 : Int32) d_sam_47 (by decide) (rfl : 47 + 2 = 49) ?_
        refine g_iushr X0 hx hby d_sam_49 (rfl : 49 + 1 = 50) ?_
        refine g_sipush X0 hx hby (255 : Int32) d_sam_50 (by decide) (rfl : 50 + 3 = 53) ?_
        refine g_iand X0 hx hby d_sam_53 (rfl : 53 + 1 = 54) ?_
        refine g_iloadN X0 hx hby d_sam_54 rfl (rfl : 54 + 1 = 55) ?_
        refine g_bipush X0 hx hby (8 : Int32) d_sam_55 (by decide) (rfl : 55 + 2 = 57) ?_
        refine g_iushr X0 hx hby d_sam_57 (rfl : 57 + 1 = 58) ?_
        refine g_sipush X0 hx hby (255 : Int32) d_sam_58 (by decide) (rfl : 58 + 3 = 61) ?_
        refine g_iand X0 hx hby d_sam_61 (rfl : 61 + 1 = 62) ?_
        by_cases c243 : (((x.toUInt32 >>> ((8 : Int32) &&& 31).toUInt32).toInt32) &&& (255 : Int32)) = (((y.toUInt32 >>> ((8 : Int32) &&& 31).toUInt32).toInt32) &&& (255 : Int32))
        · refine g_icT X0 hx hby d_sam_62 (teq c243).1 (by decide) (pc' := 67) (by decide) ?_
          refine g_iloadN X0 hx hby d_sam_67 rfl (rfl : 67 + 1 = 68) ?_
          refine g_iconst X0 hx hby (3 : Int32) d_sam_68 (by decide) (rfl : 68 + 1 = 69) ?_
          by_cases c244 : (((x.toUInt32 >>> ((24 : Int32) &&& 31).toUInt32).toInt32) &&& (3 : Int32)) < (3 : Int32)
          · refine g_icT X0 hx hby d_sam_69 (tlt c244).1 (by decide) (pc' := 93) (by decide) ?_
            refine g_iconst X0 hx hby (1 : Int32) d_sam_93 (by decide) (rfl : 93 + 1 = 94) ?_
            refine own_retN X0 hx hby hlk (t := .boolean) hrt (by simp) d_sam_94 (by decide) (by decide) ?_
            show Q_sam Z x y h0 n0 _ s₁.heap _
            exact ⟨(congrArg (fun z => some (Value.int z)) (by rw [F_sam, if_pos c238, if_pos c239, if_neg c240, if_pos c243, if_pos c244] <;> rfl)), N0, e0⟩
          · refine g_icF X0 hx hby d_sam_69 (flt c244).1 (rfl : 69 + 3 = 72) ?_
            refine g_iloadN X0 hx hby d_sam_72 rfl (rfl : 72 + 1 = 73) ?_
            refine g_bipush X0 hx hby (16 : Int32) d_sam_73 (by decide) (rfl : 73 + 2 = 75) ?_
            refine g_iushr X0 hx hby d_sam_75 (rfl : 75 + 1 = 76) ?_
            refine g_sipush X0 hx hby (255 : Int32) d_sam_76 (by decide) (rfl : 76 + 3 = 79) ?_
            refine g_iand X0 hx hby d_sam_79 (rfl : 79 + 1 = 80) ?_
            refine g_iloadN X0 hx hby d_sam_80 rfl (rfl : 80 + 1 = 81) ?_
            refine g_bipush X0 hx hby (16 : Int32) d_sam_81 (by decide) (rfl : 81 + 2 = 83) ?_
            refine g_iushr X0 hx hby d_sam_83 (rfl : 83 + 1 = 84) ?_
            refine g_sipush X0 hx hby (255 : Int32) d_sam_84 (by decide) (rfl : 84 + 3 = 87) ?_
            refine g_iand X0 hx hby d_sam_87 (rfl : 87 + 1 = 88) ?_
            by_cases c245 : (((x.toUInt32 >>> ((16 : Int32) &&& 31).toUInt32).toInt32) &&& (255 : Int32)) = (((y.toUInt32 >>> ((16 : Int32) &&& 31).toUInt32).toInt32) &&& (255 : Int32))
            · refine g_icT X0 hx hby d_sam_88 (teq c245).1 (by decide) (pc' := 93) (by decide) ?_
              refine g_iconst X0 hx hby (1 : Int32) d_sam_93 (by decide) (rfl : 93 + 1 = 94) ?_
              refine own_retN X0 hx hby hlk (t := .boolean) hrt (by simp) d_sam_94 (by decide) (by decide) ?_
              show Q_sam Z x y h0 n0 _ s₁.heap _
              exact ⟨(congrArg (fun z => some (Value.int z)) (by rw [F_sam, if_pos c238, if_pos c239, if_neg c240, if_pos c243, if_neg c244, if_pos c245] <;> rfl)), N0, e0⟩
            · refine g_icF X0 hx hby d_sam_88 (feq c245).1 (rfl : 88 + 3 = 91) ?_
              refine g_iconst X0 hx hby (0 : Int32) d_sam_91 (by decide) (rfl : 91 + 1 = 92) ?_
              refine own_retN X0 hx hby hlk (t := .boolean) hrt (by simp) d_sam_92 (by decide) (by decide) ?_
              show Q_sam Z x y h0 n0 _ s₁.heap _
              exact ⟨(congrArg (fun z => some (Value.int z)) (by rw [F_sam, if_pos c238, if_pos c239, if_neg c240, if_pos c243, if_neg c244, if_neg c245] <;> rfl)), N0, e0⟩
        · refine g_icF X0 hx hby d_sam_62 (feq c243).1 (rfl : 62 + 3 = 65) ?_
          refine g_iconst X0 hx hby (0 : Int32) d_sam_65 (by decide) (rfl : 65 + 1 = 66) ?_
          refine own_retN X0 hx hby hlk (t := .boolean) hrt (by simp) d_sam_66 (by decide) (by decide) ?_
          show Q_sam Z x y h0 n0 _ s₁.heap _
          exact ⟨(congrArg (fun z => some (Value.int z)) (by rw [F_sam, if_pos c238, if_pos c239, if_neg c240, if_neg c243] <;> rfl)), N0, e0⟩
    · refine g_icF X0 hx hby d_sam_23 (flt c239).1 (rfl : 23 + 3 = 26) ?_
      refine g_iloadN X0 hx hby d_sam_26 rfl (rfl : 26 + 1 = 27) ?_
      refine g_sipush X0 hx hby (255 : Int32) d_sam_27 (by decide) (rfl : 27 + 3 = 30) ?_
      refine g_iand X0 hx hby d_sam_30 (rfl : 30 + 1 = 31) ?_
      refine g_iloadN X0 hx hby d_sam_31 rfl (rfl : 31 + 1 = 32) ?_
      refine g_sipush X0 hx hby (255 : Int32) d_sam_32 (by decide) (rfl : 32 + 3 = 35) ?_
      refine g_iand X0 hx hby d_sam_35 (rfl : 35 + 1 = 36) ?_
      by_cases c246 : (x &&& (255 : Int32)) = (y &&& (255 : Int32))
      · refine g_icT X0 hx hby d_sam_36 (teq c246).1 (by decide) (pc' := 41) (by decide) ?_
        refine g_iloadN X0 hx hby d_sam_41 rfl (rfl : 41 + 1 = 42) ?_
        refine g_iconst X0 hx hby (2 : Int32) d_sam_42 (by decide) (rfl : 42 + 1 = 43) ?_
        by_cases c247 : (((x.toUInt32 >>> ((24 : Int32) &&& 31).toUInt32).toInt32) &&& (3 : Int32)) < (2 : Int32)
        · refine g_icT X0 hx hby d_sam_43 (tlt c247).1 (by decide) (pc' := 67) (by decide) ?_
          refine g_iloadN X0 hx hby d_sam_67 rfl (rfl : 67 + 1 = 68) ?_
          refine g_iconst X0 hx hby (3 : Int32) d_sam_68 (by decide) (rfl : 68 + 1 = 69) ?_
          by_cases c248 : (((x.toUInt32 >>> ((24 : Int32) &&& 31).toUInt32).toInt32) &&& (3 : Int32)) < (3 : Int32)
          · refine g_icT X0 hx hby d_sam_69 (tlt c248).1 (by decide) (pc' := 93) (by decide) ?_
            refine g_iconst X0 hx hby (1 : Int32) d_sam_93 (by decide) (rfl : 93 + 1 = 94) ?_
            refine own_retN X0 hx hby hlk (t := .boolean) hrt (by simp) d_sam_94 (by decide) (by decide) ?_
            show Q_sam Z x y h0 n0 _ s₁.heap _
            exact ⟨(congrArg (fun z => some (Value.int z)) (by rw [F_sam, if_pos c238, if_neg c239, if_pos c246, if_pos c247, if_pos c248] <;> rfl)), N0, e0⟩
          · refine g_icF X0 hx hby d_sam_69 (flt c248).1 (rfl : 69 + 3 = 72) ?_
            refine g_iloadN X0 hx hby d_sam_72 rfl (rfl : 72 + 1 = 73) ?_
            refine g_bipush X0 hx hby (16 : Int32) d_sam_73 (by decide) (rfl : 73 + 2 = 75) ?_
            refine g_iushr X0 hx hby d_sam_75 (rfl : 75 + 1 = 76) ?_
            refine g_sipush X0 hx hby (255 : Int32) d_sam_76 (by decide) (rfl : 76 + 3 = 79) ?_
            refine g_iand X0 hx hby d_sam_79 (rfl : 79 + 1 = 80) ?_
            refine g_iloadN X0 hx hby d_sam_80 rfl (rfl : 80 + 1 = 81) ?_
            refine g_bipush X0 hx hby (16 : Int32) d_sam_81 (by decide) (rfl : 81 + 2 = 83) ?_
            refine g_iushr X0 hx hby d_sam_83 (rfl : 83 + 1 = 84) ?_
            refine g_sipush X0 hx hby (255 : Int32) d_sam_84 (by decide) (rfl : 84 + 3 = 87) ?_
            refine g_iand X0 hx hby d_sam_87 (rfl : 87 + 1 = 88) ?_
            by_cases c249 : (((x.toUInt32 >>> ((16 : Int32) &&& 31).toUInt32).toInt32) &&& (255 : Int32)) = (((y.toUInt32 >>> ((16 : Int32) &&& 31).toUInt32).toInt32) &&& (255 : Int32))
            · refine g_icT X0 hx hby d_sam_88 (teq c249).1 (by decide) (pc' := 93) (by decide) ?_
              refine g_iconst X0 hx hby (1 : Int32) d_sam_93 (by decide) (rfl : 93 + 1 = 94) ?_
              refine own_retN X0 hx hby hlk (t := .boolean) hrt (by simp) d_sam_94 (by decide) (by decide) ?_
              show Q_sam Z x y h0 n0 _ s₁.heap _
              exact ⟨(congrArg (fun z => some (Value.int z)) (by rw [F_sam, if_pos c238, if_neg c239, if_pos c246, if_pos c247, if_neg c248, if_pos c249] <;> rfl)), N0, e0⟩
            · refine g_icF X0 hx hby d_sam_88 (feq c249).1 (rfl : 88 + 3 = 91) ?_
              refine g_iconst X0 hx hby (0 : Int32) d_sam_91 (by decide) (rfl : 91 + 1 = 92) ?_
              refine own_retN X0 hx hby hlk (t := .boolean) hrt (by simp) d_sam_92 (by decide) (by decide) ?_
              show Q_sam Z x y h0 n0 _ s₁.heap _
              exact ⟨(congrArg (fun z => some (Value.int z)) (by rw [F_sam, if_pos c238, if_neg c239, if_pos c246, if_pos c247, if_neg c248, if_neg c249] <;> rfl)), N0, e0⟩
        · refine g_icF X0 hx hby d_sam_43 (flt c247).1 (rfl : 43 + 3 = 46) ?_
          refine g_iloadN X0 hx hby d_sam_46 rfl (rfl : 46 + 1 = 47) ?_
          refine g_bipush X0 hx hby (8 : Int32) d_sam_47 (by decide) (rfl : 47 + 2 = 49) ?_
          refine g_iushr X0 hx hby d_sam_49 (rfl : 49 + 1 = 50) ?_
          refine g_sipush X0 hx hby (255 : Int32) d_sam_50 (by decide) (rfl : 50 + 3 = 53) ?_
          refine g_iand X0 hx hby d_sam_53 (rfl : 53 + 1 = 54) ?_
          refine g_iloadN X0 hx hby d_sam_54 rfl (rfl : 54 + 1 = 55) ?_
          refine g_bipush X0 hx hby (8 : Int32) d_sam_55 (by decide) (rfl : 55 + 2 = 57) ?_
          refine g_iushr X0 hx hby d_sam_57 (rfl : 57 + 1 = 58) ?_
          refine g_sipush X0 hx hby (255 : Int32) d_sam_58 (by decide) (rfl : 58 + 3 = 61) ?_
          refine g_iand X0 hx hby d_sam_61 (rfl : 61 + 1 = 62) ?_
          by_cases c250 : (((x.toUInt32 >>> ((8 : Int32) &&& 31).toUInt32).toInt32) &&& (255 : Int32)) = (((y.toUInt32 >>> ((8 : Int32) &&& 31).toUInt32).toInt32) &&& (255 : Int32))
          · refine g_icT X0 hx hby d_sam_62 (teq c250).1 (by decide) (pc' := 67) (by decide) ?_
            refine g_iloadN X0 hx hby d_sam_67 rfl (rfl : 67 + 1 = 68) ?_
            refine g_iconst X0 hx hby (3 : Int32) d_sam_68 (by decide) (rfl : 68 + 1 = 69) ?_
            by_cases c251 : (((x.toUInt32 >>> ((24 : Int32) &&& 31).toUInt32).toInt32) &&& (3 : Int32)) < (3 : Int32)
            · refine g_icT X0 hx hby d_sam_69 (tlt c251).1 (by decide) (pc' := 93) (by decide) ?_
              refine g_iconst X0 hx hby (1 : Int32) d_sam_93 (by decide) (rfl : 93 + 1 = 94) ?_
              refine own_retN X0 hx hby hlk (t := .boolean) hrt (by simp) d_sam_94 (by decide) (by decide) ?_
              show Q_sam Z x y h0 n0 _ s₁.heap _
              exact ⟨(congrArg (fun z => some (Value.int z)) (by rw [F_sam, if_pos c238, if_neg c239, if_pos c246, if_neg c247, if_pos c250, if_pos c251] <;> rfl)), N0, e0⟩
            · refine g_icF X0 hx hby d_sam_69 (flt c251).1 (rfl : 69 + 3 = 72) ?_
              refine g_iloadN X0 hx hby d_sam_72 rfl (rfl : 72 + 1 = 73) ?_
              refine g_bipush X0 hx hby (16 : Int32) d_sam_73 (by decide) (rfl : 73 + 2 = 75) ?_
              refine g_iushr X0 hx hby d_sam_75 (rfl : 75 + 1 = 76) ?_
              refine g_sipush X0 hx hby (255 : Int32) d_sam_76 (by decide) (rfl : 76 + 3 = 79) ?_
              refine g_iand X0 hx hby d_sam_79 (rfl : 79 + 1 = 80) ?_
              refine g_iloadN X0 hx hby d_sam_80 rfl (rfl : 80 + 1 = 81) ?_
              refine g_bipush X0 hx hby (16 : Int32) d_sam_81 (by decide) (rfl : 81 + 2 = 83) ?_
              refine g_iushr X0 hx hby d_sam_83 (rfl : 83 + 1 = 84) ?_
              refine g_sipush X0 hx hby (255 : Int32) d_sam_84 (by decide) (rfl : 84 + 3 = 87) ?_
              refine g_iand X0 hx hby d_sam_87 (rfl : 87 + 1 = 88) ?_
              by_cases c252 : (((x.toUInt32 >>> ((16 : Int32) &&& 31).toUInt32).toInt32) &&& (255 : Int32)) = (((y.toUInt32 >>> ((16 : Int32) &&& 31).toUInt32).toInt32) &&& (255 : Int32))
              · refine g_icT X0 hx hby d_sam_88 (teq c252).1 (by decide) (pc' := 93) (by decide) ?_
                refine g_iconst X0 hx hby (1 : Int32) d_sam_93 (by decide) (rfl : 93 + 1 = 94) ?_
                refine own_retN X0 hx hby hlk (t := .boolean) hrt (by simp) d_sam_94 (by decide) (by decide) ?_
                show Q_sam Z x y h0 n0 _ s₁.heap _
                exact ⟨(congrArg (fun z => some (Value.int z)) (by rw [F_sam, if_pos c238, if_neg c239, if_pos c246, if_neg c247, if_pos c250, if_neg c251, if_pos c252] <;> rfl)), N0, e0⟩
              · refine g_icF X0 hx hby d_sam_88 (feq c252).1 (rfl : 88 + 3 = 91) ?_
                refine g_iconst X0 hx hby (0 : Int32) d_sam_91 (by decide) (rfl : 91 + 1 = 92) ?_
                refine own_retN X0 hx hby hlk (t := .boolean) hrt (by simp) d_sam_92 (by decide) (by decide) ?_
                show Q_sam Z x y h0 n0 _ s₁.heap _
                exact ⟨(congrArg (fun z => some (Value.int z)) (by rw [F_sam, if_pos c238, if_neg c239, if_pos c246, if_neg c247, if_pos c250, if_neg c251, if_neg c252] <;> rfl)), N0, e0⟩
          · refine g_icF X0 hx hby d_sam_62 (feq c250).1 (rfl : 62 + 3 = 65) ?_
            refine g_iconst X0 hx hby (0 : Int32) d_sam_65 (by decide) (rfl : 65 + 1 = 66) ?_
            refine own_retN X0 hx hby hlk (t := .boolean) hrt (by simp) d_sam_66 (by decide) (by decide) ?_
            show Q_sam Z x y h0 n0 _ s₁.heap _
            exact ⟨(congrArg (fun z => some (Value.int z)) (by rw [F_sam, if_pos c238, if_neg c239, if_pos c246, if_neg c247, if_neg c250] <;> rfl)), N0, e0⟩
      · refine g_icF X0 hx hby d_sam_36 (feq c246).1 (rfl : 36 + 3 = 39) ?_
        refine g_iconst X0 hx hby (0 : Int32) d_sam_39 (by decide) (rfl : 39 + 1 = 40) ?_
        refine own_retN X0 hx hby hlk (t := .boolean) hrt (by simp) d_sam_40 (by decide) (by decide) ?_
        show Q_sam Z x y h0 n0 _ s₁.heap _
        exact ⟨(congrArg (fun z => some (Value.int z)) (by rw [F_sam, if_pos c238, if_neg c239, if_neg c246] <;> rfl)), N0, e0⟩
  · refine g_icF X0 hx hby d_sam_16 (feq c238).1 (rfl : 16 + 3 = 19) ?_
    refine g_iconst X0 hx hby (0 : Int32) d_sam_19 (by decide) (rfl : 19 + 1 = 20) ?_
    refine own_retN X0 hx hby hlk (t := .boolean) hrt (by simp) d_sam_20 (by decide) (by decide) ?_
    show Q_sam Z x y h0 n0 _ s₁.heap _
    exact ⟨(congrArg (fun z => some (Value.int z)) (by rw [F_sam, if_neg c238] <;> rfl)), N0, e0⟩
theorem d_eqs_0 : decode jdk_42_method_66_code 0 = .ok (.aload_n 0, 1) := by decide +kernel
theorem d_eqs_1 : decode jdk_42_method_66_code 1 = .ok (.aload_n 1, 1) := by decide +kernel
theorem d_eqs_2 : decode jdk_42_method_66_code 2 = .ok (.if_acmp .ne 5, 3) := by decide +kernel
theorem d_eqs_5 : decode jdk_42_method_66_code 5 = .ok (.iconst 1, 1) := by decide +kernel
theorem d_eqs_6 : decode jdk_42_method_66_code 6 = .ok (.ireturn, 1) := by decide +kernel
theorem ef_eqs (m : MethodId) (a0 : Addr) : entryFrame m #[(.ref a0), (.ref a0)] 3 = mkF m 0 #[.val (.ref a0), .val (.ref a0), .unset] [] := by first | (simp [entryFrame, mkF, argsToLocals, Value.category]; done) | rfl
def Q_eqs (Z : State) (a0 : Addr) (h0 : Heap) (n0 : Nat) (v : Option Value) (h : Heap) (L : List Loc) : Prop := v = some (.int (1 : Int32)) ∧ Fr n0 L ∧ h = h0
set_option maxRecDepth 65536 in
set_option maxHeartbeats 40000000 in
theorem rm_eqs (l : Launch) (Z : State) (aT : Array Value) (hw : ∀ d ∈ tables_1, d.before aT Z = true) (ws : List Jvm.Cond) (a0 : Addr) (h0 : Heap) (n0 : Nat) (Z0 : n0 ≤ h0.size) :
    MetFree l (⟨"java/lang/String", "equals", "(Ljava/lang/Object;)Z"⟩ : MethodName) (head1 (Jvm.Cond.code (⟨"java/lang/String", "equals", "(Ljava/lang/Object;)Z"⟩ : MethodName) jdk_42_method_66_code 3 (some .boolean) :: ws) ({ frames := 0, cells := 0, slots := 0, locals := 0 } : Room)) (fun a U => a = #[(.ref a0), (.ref a0)] ∧ Z.Warmed39 U.vm ∧ U.heap = h0) (fun _ _ _ _ _ => True) (fun _ U o U' => ∃ v L, o = .returned v ∧ Q_eqs Z a0 h0 n0 v U'.heap L ∧ FrameEnd U o U' L ({ frames := 0, cells := 0, slots := 0, locals := 0 } : Room).cells ({ frames := 0, cells := 0, slots := 0, locals := 0 } : Room).slots) := by
  refine MetFree.of_bodySF (plainFor_of_name pn1) hisR ?_
  intro p e s m args below meth c s₁ Bd hml0 hP hK
  obtain ⟨rfl, hZ, hh⟩ := hP
  have hx := Bd.exec
  have hby := Bd.bytes
  have hml : c.maxLocals = 3 := hml0
  have hown : s.vm.findClass "java/lang/String" = some m.cls := findClass_of_methodNamed Bd.named
  have hnm := (name_of_methodNamed Bd.named Bd.method).1
  have hlk := Bd.notSynchronized
  have hrt := Bd.returns
  have X0 : Stand p l e ({ frames := 0, cells := 0, slots := 0, locals := 0 } : Room) s m #[(.ref a0), (.ref a0)] below meth c s₁ [] 0 0 := Stand.of_body Bd
  have e0 : s₁.heap = h0 := by rw [← hh, Bd.state]; rfl
  have N0 := Fr.nil n0
  refine own_cast (P := own_End s (Q_eqs Z a0 h0 n0) ({ frames := 0, cells := 0, slots := 0, locals := 0 } : Room).cells ({ frames := 0, cells := 0, slots := 0, locals := 0 } : Room).slots) (ef_eqs m a0) ?_
  refine g_aloadN X0 hx hby d_eqs_0 rfl rfl (rfl : 0 + 1 = 1) ?_
  refine g_aloadN X0 hx hby d_eqs_1 rfl rfl (rfl : 1 + 1 = 2) ?_
  refine g_acmp X0 hx hby (pc' := 5) true d_eqs_2 rfl rfl (decide_eq_true rfl) (by decide) (by decide) ?_
  refine g_iconst X0 hx hby (1 : Int32) d_eqs_5 (by decide) (rfl : 5 + 1 = 6) ?_
  refine own_retN X0 hx hby hlk (t := .boolean) hrt (by simp) d_eqs_6 (by decide) (by decide) ?_
  show Q_eqs Z a0 h0 n0 _ s₁.heap _
  exact ⟨rfl, N0, e0⟩
theorem d_leq_0 : decode jdk_43_method_13_code 0 = .ok (.aload_n 0, 1) := by decide +kernel
theorem d_leq_1 : decode jdk_43_method_13_code 1 = .ok (.arraylength, 1) := by decide +kernel
theorem d_leq_2 : decode jdk_43_method_13_code 2 = .ok (.aload_n 1, 1) := by decide +kernel
theorem d_leq_3 : decode jdk_43_method_13_code 3 = .ok (.arraylength, 1) := by decide +kernel
theorem d_leq_4 : decode jdk_43_method_13_code 4 = .ok (.if_icmp .ne 30, 3) := by decide +kernel
theorem d_leq_7 : decode jdk_43_method_13_code 7 = .ok (.iconst 0, 1) := by decide +kernel
theorem d_leq_8 : decode jdk_43_method_13_code 8 = .ok (.istore_n 2, 1) := by decide +kernel
theorem d_leq_9 : decode jdk_43_method_13_code 9 = .ok (.iload_n 2, 1) := by decide +kernel
theorem d_leq_10 : decode jdk_43_method_13_code 10 = .ok (.aload_n 0, 1) := by decide +kernel
theorem d_leq_11 : decode jdk_43_method_13_code 11 = .ok (.arraylength, 1) := by decide +kernel
theorem d_leq_12 : decode jdk_43_method_13_code 12 = .ok (.if_icmp .ge 20, 3) := by decide +kernel
theorem d_leq_15 : decode jdk_43_method_13_code 15 = .ok (.aload_n 0, 1) := by decide +kernel
theorem d_leq_16 : decode jdk_43_method_13_code 16 = .ok (.iload_n 2, 1) := by decide +kernel
theorem d_leq_17 : decode jdk_43_method_13_code 17 = .ok (.baload, 1) := by decide +kernel
theorem d_leq_18 : decode jdk_43_method_13_code 18 = .ok (.aload_n 1, 1) := by decide +kernel
theorem d_leq_19 : decode jdk_43_method_13_code 19 = .ok (.iload_n 2, 1) := by decide +kernel
theorem d_leq_20 : decode jdk_43_method_13_code 20 = .ok (.baload, 1) := by decide +kernel
theorem d_leq_21 : decode jdk_43_method_13_code 21 = .ok (.if_icmp .eq 5, 3) := by decide +kernel
theorem d_leq_24 : decode jdk_43_method_13_code 24 = .ok (.iconst 0, 1) := by decide +kernel
theorem d_leq_25 : decode jdk_43_method_13_code 25 = .ok (.ireturn, 1) := by decide +kernel
theorem d_leq_26 : decode jdk_43_method_13_code 26 = .ok (.iinc 2 1, 3) := by decide +kernel
theorem d_leq_29 : decode jdk_43_method_13_code 29 = .ok (.goto (-20), 3) := by decide +kernel
theorem d_leq_32 : decode jdk_43_method_13_code 32 = .ok (.iconst 1, 1) := by decide +kernel
theorem d_leq_33 : decode jdk_43_method_13_code 33 = .ok (.ireturn, 1) := by decide +kernel
theorem d_leq_34 : decode jdk_43_method_13_code 34 = .ok (.iconst 0, 1) := by decide +kernel
theorem d_leq_35 : decode jdk_43_method_13_code 35 = .ok (.ireturn, 1) := by decide +kernel
theorem pn5 : plainName "java/lang/StringLatin1" = true := by first | (simp [plainName, overriddenIn]; done) | decide +kernel
theorem ef_leq (m : MethodId) (a0 : Addr) (a1 : Addr) : entryFrame m #[(.ref a0), (.ref a1)] 3 = mkF m 0 #[.val (.ref a0), .val (.ref a1), .unset] [] := by first | (simp [entryFrame, mkF, argsToLocals, Value.category]; done) | rfl
def F_leq (x : Int32) (y : Int32) : Int32 := if (own_L x) = (0 : Int32) then (if (own_L y) = (0 : Int32) then ((1 : Int32)) else (if (own_L y) = (1 : Int32) then ((0 : Int32)) else (if (own_L y) = (2 : Int32) then ((0 : Int32)) else (if (own_L y) = (3 : Int32) then ((0 : Int32)) else ((0 : Int32)))))) else (if (own_L x) = (1 : Int32) then (if (own_L y) = (0 : Int32) then ((0 : Int32)) else (if (own_L y) = (1 : Int32) then (if (own_b0 x) = (own_b0 y) then ((1 : Int32)) else ((0 : Int32))) else (if (own_L y) = (2 : Int32) then ((0 : Int32)) else (if (own_L y) = (3 : Int32) then ((0 : Int32)) else ((0 : Int32)))))) else (if (own_L x) = (2 : Int32) then (if (own_L y) = (0 : Int32) then ((0 : Int32)) else (if (own_L y) = (1 : Int32) then ((0 : Int32)) else (if (own_L y) = (2 : Int32) then (if (own_b0 x) = (own_b0 y) then (if (own_b1 x) = (own_b1 y) then ((1 : Int32)) else ((0 : Int32))) else ((0 : Int32))) else (if (own_L y) = (3 : Int32) then ((0 : Int32)) else ((0 : Int32)))))) else (if (own_L x) = (3 : Int32) then (if (own_L y) = (0 : Int32) then ((0 : Int32)) else (if (own_L y) = (1 : Int32) then ((0 : Int32)) else (if (own_L y) = (2 : Int32) then ((0 : Int32)) else (if (own_L y) = (3 : Int32) then (if (own_b0 x) = (own_b0 y) then (if (own_b1 x) = (own_b1 y) then (if (own_b2 x) = (own_b2 y) then ((1 : Int32)) else ((0 : Int32))) else ((0 : Int32))) else ((0 : Int32))) else ((0 : Int32)))))) else ((0 : Int32)))))
def Q_leq (Z : State) (a0 : Addr) (a1 : Addr) (x : Int32) (y : Int32) (kb : ClassId) (n : Int32) (vs : List Value) (kb' : ClassId) (n' : Int32) (vs' : List Value) (h0 : Heap) (n0 : Nat) (v : Option Value) (h : Heap) (L : List Loc) : Prop := v = some (.int (F_leq x y)) ∧ Fr n0 L ∧ h = h0
set_option maxRecDepth 65536 in
set_option maxHeartbeats 40000000 in
theorem rm_leq (l : Launch) (Z : State) (aT : Array Value) (hw : ∀ d ∈ tables_1, d.before aT Z = true) (ws : List Jvm.Cond) (a0 : Addr) (a1 : Addr) (x : Int32) (y : Int32) (kb : ClassId) (n : Int32) (vs : List Value) (kb' : ClassId) (n' : Int32) (vs' : List Value) (h0 : Heap) (n0 : Nat) (Z0 : n0 ≤ h0.size) (hp0 : Arv Z h0 a0 kb .byte n vs (.int (0 : Int32))) (hp1 : Arv Z h0 a1 kb' .byte n' vs' (.int (0 : Int32))) (hst : own_st x n vs) (hst' : own_st y n' vs') :
    MetFree l (⟨"java/lang/StringLatin1", "equals", "([B[B)Z"⟩ : MethodName) (head1 (Jvm.Cond.code (⟨"java/lang/StringLatin1", "equals", "([B[B)Z"⟩ : MethodName) jdk_43_method_13_code 3 (some .boolean) :: ws) ({ frames := 0, cells := 0, slots := 0, locals := 0 } : Room)) (fun a U => a = #[(.ref a0), (.ref a1)] ∧ Z.Warmed39 U.vm ∧ U.heap = h0) (fun _ _ _ _ _ => True) (fun _ U o U' => ∃ v L, o = .returned v ∧ Q_leq Z a0 a1 x y kb n vs kb' n' vs' h0 n0 v U'.heap L ∧ FrameEnd U o U' L ({ frames := 0, cells := 0, slots := 0, locals := 0 } : Room).cells ({ frames := 0, cells := 0, slots := 0, locals := 0 } : Room).slots) := by
  refine MetFree.of_bodySF (plainFor_of_name pn5) hisR ?_
  intro p e s m args below meth c s₁ Bd hml0 hP hK
  obtain ⟨rfl, hZ, hh⟩ := hP
  have hx := Bd.exec
  have hby := Bd.bytes
  have hml : c.maxLocals = 3 := hml0
  have hown : s.vm.findClass "java/lang/StringLatin1" = some m.cls := findClass_of_methodNamed Bd.named
  have hnm := (name_of_methodNamed Bd.named Bd.method).1
  have hlk := Bd.notSynchronized
  have hrt := Bd.returns
  have X0 : Stand p l e ({ frames := 0, cells := 0, slots := 0, locals := 0 } : Room) s m #[(.ref a0), (.ref a1)] below meth c s₁ [] 0 0 := Stand.of_body Bd
  have e0 : s₁.heap = h0 := by rw [← hh, Bd.state]; rfl
  have N0 := Fr.nil n0
  refine own_cast (P := own_End s (Q_leq Z a0 a1 x y kb n vs kb' n' vs' h0 n0) ({ frames := 0, cells := 0, slots := 0, locals := 0 } : Room).cells ({ frames := 0, cells := 0, slots := 0, locals := 0 } : Room).slots) (ef_leq m a0 a1) ?_
  by_cases c253 : (own_L x) = (0 : Int32)
  · have r254 : Arv Z h0 a0 kb .byte (0 : Int32) [] (.int (0 : Int32)) := by have q := hp0; rw [(own_st0 hst c253).1, (own_st0 hst c253).2] at q; exact q
    by_cases c255 : (own_L y) = (0 : Int32)
    · have r256 : Arv Z h0 a1 kb' .byte (0 : Int32) [] (.int (0 : Int32)) := by have q := hp1; rw [(own_st0 hst' c255).1, (own_st0 hst' c255).2] at q; exact q
      refine g_aloadN X0 hx hby d_leq_0 rfl rfl (rfl : 0 + 1 = 1) ?_
      refine g_alen X0 hx hby hZ e0 r254 d_leq_1 (rfl : 1 + 1 = 2) ?_
      refine g_aloadN X0 hx hby d_leq_2 rfl rfl (rfl : 2 + 1 = 3) ?_
      refine g_alen X0 hx hby hZ e0 r256 d_leq_3 (rfl : 3 + 1 = 4) ?_
      refine g_icF X0 hx hby d_leq_4 (teq (by decide : (0 : Int32) = (0 : Int32))).2 (rfl : 4 + 3 = 7) ?_
      refine g_iconst X0 hx hby (0 : Int32) d_leq_7 (by decide) (rfl : 7 + 1 = 8) ?_
      refine g_istoreN X0 hx hby #[.val (.ref a0), .val (.ref a1), .val (.int (0 : Int32))] d_leq_8 rfl (rfl : 8 + 1 = 9) ?_
      refine g_iloadN X0 hx hby d_leq_9 rfl (rfl : 9 + 1 = 10) ?_
      refine g_aloadN X0 hx hby d_leq_10 rfl rfl (rfl : 10 + 1 = 11) ?_
      refine g_alen X0 hx hby hZ e0 r254 d_leq_11 (rfl : 11 + 1 = 12) ?_
      refine g_icT X0 hx hby d_leq_12 (flt (by decide : ¬ ((0 : Int32) < (0 : Int32)))).2.1 (by decide) (pc' := 32) (by decide) ?_
      refine g_iconst X0 hx hby (1 : Int32) d_leq_32 (by decide) (rfl : 32 + 1 = 33) ?_
      refine own_retN X0 hx hby hlk (t := .boolean) hrt (by simp) d_leq_33 (by decide) (by decide) ?_
      show Q_leq Z a0 a1 x y kb n vs kb' n' vs' h0 n0 _ s₁.heap _
      exact ⟨(congrArg (fun z => some (Value.int z)) (by rw [F_leq, if_pos c253, if_pos c255] <;> rfl)), N0, e0⟩
    · by_cases c257 : (own_L y) = (1 : Int32)
      · have r258 : Arv Z h0 a1 kb' .byte (1 : Int32) [(.int (own_b0 y))] (.int (0 : Int32)) := by have q := hp1; rw [(own_st1 hst' c257).1, (own_st1 hst' c257).2] at q; exact q
        refine g_aloadN X0 hx hby d_leq_0 rfl rfl (rfl : 0 + 1 = 1) ?_
        refine g_alen X0 hx hby hZ e0 r254 d_leq_1 (rfl : 1 + 1 = 2) ?_
        refine g_aloadN X0 hx hby d_leq_2 rfl rfl (rfl : 2 + 1 = 3) ?_
        refine g_alen X0 hx hby hZ e0 r258 d_leq_3 (rfl : 3 + 1 = 4) ?_
        refine g_icT X0 hx hby d_leq_4 (feq (by decide : ¬ ((0 : Int32) = (1 : Int32)))).2 (by decide) (pc' := 34) (by decide) ?_
        refine g_iconst X0 hx hby (0 : Int32) d_leq_34 (by decide) (rfl : 34 + 1 = 35) ?_
        refine own_retN X0 hx hby hlk (t := .boolean) hrt (by simp) d_leq_35 (by decide) (by decide) ?_
        show Q_leq Z a0 a1 x y kb n vs kb' n' vs' h0 n0 _ s₁.heap _
        exact ⟨(congrArg (fun z => some (Value.int z)) (by rw [F_leq, if_pos c253, if_neg c255, if_pos c257] <;> rfl)), N0, e0⟩
      · by_cases c259 : (own_L y) = (2 : Int32)
        · have r260 : Arv Z h0 a1 kb' .byte (2 : Int32) [(.int (own_b0 y)), (.int (own_b1 y))] (.int (0 : Int32)) := by have q := hp1; rw [(own_st2 hst' c259).1, (own_st2 hst' c259).2] at q; exact q
          refine g_aloadN X0 hx hby d_leq_0 rfl rfl (rfl : 0 + 1 = 1) ?_
          refine g_alen X0 hx hby hZ e0 r254 d_leq_1 (rfl : 1 + 1 = 2) ?_
          refine g_aloadN X0 hx hby d_leq_2 rfl rfl (rfl : 2 + 1 = 3) ?_
          refine g_alen X0 hx hby hZ e0 r260 d_leq_3 (rfl : 3 + 1 = 4) ?_
          refine g_icT X0 hx hby d_leq_4 (feq (by decide : ¬ ((0 : Int32) = (2 : Int32)))).2 (by decide) (pc' := 34) (by decide) ?_
          refine g_iconst X0 hx hby (0 : Int32) d_leq_34 (by decide) (rfl : 34 + 1 = 35) ?_
          refine own_retN X0 hx hby hlk (t := .boolean) hrt (by simp) d_leq_35 (by decide) (by decide) ?_
          show Q_leq Z a0 a1 x y kb n vs kb' n' vs' h0 n0 _ s₁.heap _
          exact ⟨(congrArg (fun z => some (Value.int z)) (by rw [F_leq, if_pos c253, if_neg c255, if_neg c257, if_pos c259] <;> rfl)), N0, e0⟩
        · by_cases c261 : (own_L y) = (3 : Int32)
          · have r262 : Arv Z h0 a1 kb' .byte (3 : Int32) [(.int (own_b0 y)), (.int (own_b1 y)), (.int (own_b2 y))] (.int (0 : Int32)) := by have q := hp1; rw [(own_st3 hst' c261).1, (own_st3 hst' c261).2] at q; exact q
            refine g_aloadN X0 hx hby d_leq_0 rfl rfl (rfl : 0 + 1 = 1) ?_
            refine g_alen X0 hx hby hZ e0 r254 d_leq_1 (rfl : 1 + 1 = 2) ?_
            refine g_aloadN X0 hx hby d_leq_2 rfl rfl (rfl : 2 + 1 = 3) ?_
            refine g_alen X0 hx hby hZ e0 r262 d_leq_3 (rfl : 3 + 1 = 4) ?_
            refine g_icT X0 hx hby d_leq_4 (feq (by decide : ¬ ((0 : Int32) = (3 : Int32)))).2 (by decide) (pc' := 34) (by decide) ?_
            refine g_iconst X0 hx hby (0 : Int32) d_leq_34 (by decide) (rfl : 34 + 1 = 35) ?_
            refine own_retN X0 hx hby hlk (t := .boolean) hrt (by simp) d_leq_35 (by decide) (by decide) ?_
            show Q_leq Z a0 a1 x y kb n vs kb' n' vs' h0 n0 _ s₁.heap _
            exact ⟨(congrArg (fun z => some (Value.int z)) (by rw [F_leq, if_pos c253, if_neg c255, if_neg c257, if_neg c259, if_pos c261] <;> rfl)), N0, e0⟩
          · exact (own_no4 (own_Lc y) c255 c257 c259 c261).elim
  · by_cases c263 : (own_L x) = (1 : Int32)
    · have r264 : Arv Z h0 a0 kb .byte (1 : Int32) [(.int (own_b0 x))] (.int (0 : Int32)) := by have q := hp0; rw [(own_st1 hst c263).1, (own_st1 hst c263).2] at q; exact q
      by_cases c265 : (own_L y) = (0 : Int32)
      · have r266 : Arv Z h0 a1 kb' .byte (0 : Int32) [] (.int (0 : Int32)) := by have q := hp1; rw [(own_st0 hst' c265).1, (own_st0 hst' c265).2] at q; exact q
        refine g_aloadN X0 hx hby d_leq_0 rfl rfl (rfl : 0 + 1 = 1) ?_
        refine g_alen X0 hx hby hZ e0 r264 d_leq_1 (rfl : 1 + 1 = 2) ?_
        refine g_aloadN X0 hx hby d_leq_2 rfl rfl (rfl : 2 + 1 = 3) ?_
        refine g_alen X0 hx hby hZ e0 r266 d_leq_3 (rfl : 3 + 1 = 4) ?_
        refine g_icT X0 hx hby d_leq_4 (feq (by decide : ¬ ((1 : Int32) = (0 : Int32)))).2 (by decide) (pc' := 34) (by decide) ?_
        refine g_iconst X0 hx hby (0 : Int32) d_leq_34 (by decide) (rfl : 34 + 1 = 35) ?_
        refine own_retN X0 hx hby hlk (t := .boolean) hrt (by simp) d_leq_35 (by decide) (by decide) ?_
        show Q_leq Z a0 a1 x y kb n vs kb' n' vs' h0 n0 _ s₁.heap _
        exact ⟨(congrArg (fun z => some (Value.int z)) (by rw [F_leq, if_neg c253, if_pos c263, if_pos c265] <;> rfl)), N0, e0⟩
      · by_cases c267 : (own_L y) = (1 : Int32)
        · have r268 : Arv Z h0 a1 kb' .byte (1 : Int32) [(.int (own_b0 y))] (.int (0 : Int32)) := by have q := hp1; rw [(own_st1 hst' c267).1, (own_st1 hst' c267).2] at q; exact q
          refine g_aloadN X0 hx hby d_leq_0 rfl rfl (rfl : 0 + 1 = 1) ?_
          refine g_alen X0 hx hby hZ e0 r264 d_leq_1 (rfl : 1 + 1 = 2) ?_
          refine g_aloadN X0 hx hby d_leq_2 rfl rfl (rfl : 2 + 1 = 3) ?_
          refine g_alen X0 hx hby hZ e0 r268 d_leq_3 (rfl : 3 + 1 = 4) ?_
          refine g_icF X0 hx hby d_leq_4 (teq (by decide : (1 : Int32) = (1 : Int32))).2 (rfl : 4 + 3 = 7) ?_
          refine g_iconst X0 hx hby (0 : Int32) d_leq_7 (by decide) (rfl : 7 + 1 = 8) ?_
          refine g_istoreN X0 hx hby #[.val (.ref a0), .val (.ref a1), .val (.int (0 : Int32))] d_leq_8 rfl (rfl : 8 + 1 = 9) ?_
          refine g_iloadN X0 hx hby d_leq_9 rfl (rfl : 9 + 1 = 10) ?_
          refine g_aloadN X0 hx hby d_leq_10 rfl rfl (rfl : 10 + 1 = 11) ?_
          refine g_alen X0 hx hby hZ e0 r264 d_leq_11 (rfl : 11 + 1 = 12) ?_
          refine g_icF X0 hx hby d_leq_12 (tlt (by decide : (0 : Int32) < (1 : Int32))).2.1 (rfl : 12 + 3 = 15) ?_
          refine g_aloadN X0 hx hby d_leq_15 rfl rfl (rfl : 15 + 1 = 16) ?_
          refine g_iloadN X0 hx hby d_leq_16 rfl (rfl : 16 + 1 = 17) ?_
          refine g_baload X0 hx hby hZ e0 (v := (.int (own_b0 x))) r264 ⟨by decide, by decide⟩ rfl d_leq_17 (rfl : 17 + 1 = 18) ?_
          refine g_aloadN X0 hx hby d_leq_18 rfl rfl (rfl : 18 + 1 = 19) ?_
          refine g_iloadN X0 hx hby d_leq_19 rfl (rfl : 19 + 1 = 20) ?_
          refine g_baload X0 hx hby hZ e0 (v := (.int (own_b0 y))) r268 ⟨by decide, by decide⟩ rfl d_leq_20 (rfl : 20 + 1 = 21) ?_
          by_cases c269 : (own_b0 x) = (own_b0 y)
          · refine g_icT X0 hx hby d_leq_21 (teq c269).1 (by decide) (pc' := 26) (by decide) ?_
            refine g_iinc X0 hx hby #[.val (.ref a0), .val (.ref a1), .val (.int ((0 : Int32) + (1 : Int32)))] d_leq_26 rfl rfl (rfl : 26 + 3 = 29) ?_
            rw [(by decide : ((0 : Int32) + (1 : Int32)) = (1 : Int32))]
            refine g_goto X0 hx hby d_leq_29 (by decide) (pc' := 9) (by decide) ?_
            refine g_iloadN X0 hx hby d_leq_9 rfl (rfl : 9 + 1 = 10) ?_
            refine g_aloadN X0 hx hby d_leq_10 rfl rfl (rfl : 10 + 1 = 11) ?_
            refine g_alen X0 hx hby hZ e0 r264 d_leq_11 (rfl : 11 + 1 = 12) ?_
            refine g_icT X0 hx hby d_leq_12 (flt (by decide : ¬ ((1 : Int32) < (1 : Int32)))).2.1 (by decide) (pc' := 32) (by decide) ?_
            refine g_iconst X0 hx hby (1 : Int32) d_leq_32 (by decide) (rfl : 32 + 1 = 33) ?_
            refine own_retN X0 hx hby hlk (t := .boolean) hrt (by simp) d_leq_33 (by decide) (by decide) ?_
            show Q_leq Z a0 a1 x y kb n vs kb' n' vs' h0 n0 _ s₁.heap _
            exact ⟨(congrArg (fun z => some (Value.int z)) (by rw [F_leq, if_neg c253, if_pos c263, if_neg c265, if_pos c267, if_pos c269] <;> rfl)), N0, e0⟩
          · refine g_icF X0 hx hby d_leq_21 (feq c269).1 (rfl : 21 + 3 = 24) ?_
            refine g_iconst X0 hx hby (0 : Int32) d_leq_24 (by decide) (rfl : 24 + 1 = 25) ?_
            refine own_retN X0 hx hby hlk (t := .boolean) hrt (by simp) d_leq_25 (by decide) (by decide) ?_
            show Q_leq Z a0 a1 x y kb n vs kb' n' vs' h0 n0 _ s₁.heap _
            exact ⟨(congrArg (fun z => some (Value.int z)) (by rw [F_leq, if_neg c253, if_pos c263, if_neg c265, if_pos c267, if_neg c269] <;> rfl)), N0, e0⟩
        · by_cases c270 : (own_L y) = (2 : Int32)
          · have r271 : Arv Z h0 a1 kb' .byte (2 : Int32) [(.int (own_b0 y)), (.int (own_b1 y))] (.int (0 : Int32)) := by have q := hp1; rw [(own_st2 hst' c270).1, (own_st2 hst' c270).2] at q; exact q
            refine g_aloadN X0 hx hby d_leq_0 rfl rfl (rfl : 0 + 1 = 1) ?_
            refine g_alen X0 hx hby hZ e0 r264 d_leq_1 (rfl : 1 + 1 = 2) ?_
            refine g_aloadN X0 hx hby d_leq_2 rfl rfl (rfl : 2 + 1 = 3) ?_
            refine g_alen X0 hx hby hZ e0 r271 d_leq_3 (rfl : 3 + 1 = 4) ?_
            refine g_icT X0 hx hby d_leq_4 (feq (by decide : ¬ ((1 : Int32) = (2 : Int32)))).2 (by decide) (pc' := 34) (by decide) ?_
            refine g_iconst X0 hx hby (0 : Int32) d_leq_34 (by decide) (rfl : 34 + 1 = 35) ?_
            refine own_retN X0 hx hby hlk (t := .boolean) hrt (by simp) d_leq_35 (by decide) (by decide) ?_
            show Q_leq Z a0 a1 x y kb n vs kb' n' vs' h0 n0 _ s₁.heap _
            exact ⟨(congrArg (fun z => some (Value.int z)) (by rw [F_leq, if_neg c253, if_pos c263, if_neg c265, if_neg c267, if_pos c270] <;> rfl)), N0, e0⟩
          · by_cases c272 : (own_L y) = (3 : Int32)
            · have r273 : Arv Z h0 a1 kb' .byte (3 : Int32) [(.int (own_b0 y)), (.int (own_b1 y)), (.int (own_b2 y))] (.int (0 : Int32)) := by have q := hp1; rw [(own_st3 hst' c272).1, (own_st3 hst' c272).2] at q; exact q
              refine g_aloadN X0 hx hby d_leq_0 rfl rfl (rfl : 0 + 1 = 1) ?_
              refine g_alen X0 hx hby hZ e0 r264 d_leq_1 (rfl : 1 + 1 = 2) ?_
              refine g_aloadN X0 hx hby d_leq_2 rfl rfl (rfl : 2 + 1 = 3) ?_
              refine g_alen X0 hx hby hZ e0 r273 d_leq_3 (rfl : 3 + 1 = 4) ?_
              refine g_icT X0 hx hby d_leq_4 (feq (by decide : ¬ ((1 : Int32) = (3 : Int32)))).2 (by decide) (pc' := 34) (by decide) ?_
              refine g_iconst X0 hx hby (0 : Int32) d_leq_34 (by decide) (rfl : 34 + 1 = 35) ?_
              refine own_retN X0 hx hby hlk (t := .boolean) hrt (by simp) d_leq_35 (by decide) (by decide) ?_
              show Q_leq Z a0 a1 x y kb n vs kb' n' vs' h0 n0 _ s₁.heap _
              exact ⟨(congrArg (fun z => some (Value.int z)) (by rw [F_leq, if_neg c253, if_pos c263, if_neg c265, if_neg c267, if_neg c270, if_pos c272] <;> rfl)), N0, e0⟩
            · exact (own_no4 (own_Lc y) c265 c267 c270 c272).elim
    · by_cases c274 : (own_L x) = (2 : Int32)
      · have r275 : Arv Z h0 a0 kb .byte (2 : Int32) [(.int (own_b0 x)), (.int (own_b1 x))] (.int (0 : Int32)) := by have q := hp0; rw [(own_st2 hst c274).1, (own_st2 hst c274).2] at q; exact q
        by_cases c276 : (own_L y) = (0 : Int32)
        · have r277 : Arv Z h0 a1 kb' .byte (0 : Int32) [] (.int (0 : Int32)) := by have q := hp1; rw [(own_st0 hst' c276).1, (own_st0 hst' c276).2] at q; exact q
          refine g_aloadN X0 hx hby d_leq_0 rfl rfl (rfl : 0 + 1 = 1) ?_
          refine g_alen X0 hx hby hZ e0 r275 d_leq_1 (rfl : 1 + 1 = 2) ?_
          refine g_aloadN X0 hx hby d_leq_2 rfl rfl (rfl : 2 + 1 = 3) ?_
          refine g_alen X0 hx hby hZ e0 r277 d_leq_3 (rfl : 3 + 1 = 4) ?_
          refine g_icT X0 hx hby d_leq_4 (feq (by decide : ¬ ((2 : Int32) = (0 : Int32)))).2 (by decide) (pc' := 34) (by decide) ?_
          refine g_iconst X0 hx hby (0 : Int32) d_leq_34 (by decide) (rfl : 34 + 1 = 35) ?_
          refine own_retN X0 hx hby hlk (t := .boolean) hrt (by simp) d_leq_35 (by decide) (by decide) ?_
          show Q_leq Z a0 a1 x y kb n vs kb' n' vs' h0 n0 _ s₁.heap _
          exact ⟨(congrArg (fun z => some (Value.int z)) (by rw [F_leq, if_neg c253, if_neg c263, if_pos c274, if_pos c276] <;> rfl)), N0, e0⟩
        · by_cases c278 : (own_L y) = (1 : Int32)
          · have r279 : Arv Z h0 a1 kb' .byte (1 : Int32) [(.int (own_b0 y))] (.int (0 : Int32)) := by have q := hp1; rw [(own_st1 hst' c278).1, (own_st1 hst' c278).2] at q; exact q
            refine g_aloadN X0 hx hby d_leq_0 rfl rfl (rfl : 0 + 1 = 1) ?_
            refine g_alen X0 hx hby hZ e0 r275 d_leq_1 (rfl : 1 + 1 = 2) ?_
            refine g_aloadN X0 hx hby d_leq_2 rfl rfl (rfl : 2 + 1 = 3) ?_
            refine g_alen X0 hx hby hZ e0 r279 d_leq_3 (rfl : 3 + 1 = 4) ?_
            refine g_icT X0 hx hby d_leq_4 (feq (by decide : ¬ ((2 : Int32) = (1 : Int32)))).2 (by decide) (pc' := 34) (by decide) ?_
            refine g_iconst X0 hx hby (0 : Int32) d_leq_34 (by decide) (rfl : 34 + 1 = 35) ?_
            refine own_retN X0 hx hby hlk (t := .boolean) hrt (by simp) d_leq_35 (by decide) (by decide) ?_
            show Q_leq Z a0 a1 x y kb n vs kb' n' vs' h0 n0 _ s₁.heap _
            exact ⟨(congrArg (fun z => some (Value.int z)) (by rw [F_leq, if_neg c253, if_neg c263, if_pos c274, if_neg c276, if_pos c278] <;> rfl)), N0, e0⟩
          · by_cases c280 : (own_L y) = (2 : Int32)
            · have r281 : Arv Z h0 a1 kb' .byte (2 : Int32) [(.int (own_b0 y)), (.int (own_b1 y))] (.int (0 : Int32)) := by have q := hp1; rw [(own_st2 hst' c280).1, (own_st2 hst' c280).2] at q; exact q
              refine g_aloadN X0 hx hby d_leq_0 rfl rfl (rfl : 0 + 1 = 1) ?_
              refine g_alen X0 hx hby hZ e0 r275 d_leq_1 (rfl : 1 + 1 = 2) ?_
              refine g_aloadN X0 hx hby d_leq_2 rfl rfl (rfl : 2 + 1 = 3) ?_
              refine g_alen X0 hx hby hZ e0 r281 d_leq_3 (rfl : 3 + 1 = 4) ?_
              refine g_icF X0 hx hby d_leq_4 (teq (by decide : (2 : Int32) = (2 : Int32))).2 (rfl : 4 + 3 = 7) ?_
              refine g_iconst X0 hx hby (0 : Int32) d_leq_7 (by decide) (rfl : 7 + 1 = 8) ?_
              refine g_istoreN X0 hx hby #[.val (.ref a0), .val (.ref a1), .val (.int (0 : Int32))] d_leq_8 rfl (rfl : 8 + 1 = 9) ?_
              refine g_iloadN X0 hx hby d_leq_9 rfl (rfl : 9 + 1 = 10) ?_
              refine g_aloadN X0 hx hby d_leq_10 rfl rfl (rfl : 10 + 1 = 11) ?_
              refine g_alen X0 hx hby hZ e0 r275 d_leq_11 (rfl : 11 + 1 = 12) ?_
              refine g_icF X0 hx hby d_leq_12 (tlt (by decide : (0 : Int32) < (2 : Int32))).2.1 (rfl : 12 + 3 = 15) ?_
              refine g_aloadN X0 hx hby d_leq_15 rfl rfl (rfl : 15 + 1 = 16) ?_
              refine g_iloadN X0 hx hby d_leq_16 rfl (rfl : 16 + 1 = 17) ?_
              refine g_baload X0 hx hby hZ e0 (v := (.int (own_b0 x))) r275 ⟨by decide, by decide⟩ rfl d_leq_17 (rfl : 17 + 1 = 18) ?_
              refine g_aloadN X0 hx hby d_leq_18 rfl rfl (rfl : 18 + 1 = 19) ?_
              refine g_iloadN X0 hx hby d_leq_19 rfl (rfl : 19 + 1 = 20) ?_
              refine g_baload X0 hx hby hZ e0 (v := (.int (own_b0 y))) r281 ⟨by decide, by decide⟩ rfl d_leq_20 (rfl : 20 + 1 = 21) ?_
              by_cases c282 : (own_b0 x) = (own_b0 y)
              · refine g_icT X0 hx hby d_leq_21 (teq c282).1 (by decide) (pc' := 26) (by decide) ?_
                refine g_iinc X0 hx hby #[.val (.ref a0), .val (.ref a1), .val (.int ((0 : Int32) + (1 : Int32)))] d_leq_26 rfl rfl (rfl : 26 + 3 = 29) ?_
                rw [(by decide : ((0 : Int32) + (1 : Int32)) = (1 : Int32))]
                refine g_goto X0 hx hby d_leq_29 (by decide) (pc' := 9) (by decide) ?_
                refine g_iloadN X0 hx hby d_leq_9 rfl (rfl : 9 + 1 = 10) ?_
                refine g_aloadN X0 hx hby d_leq_10 rfl rfl (rfl : 10 + 1 = 11) ?_
                refine g_alen X0 hx hby hZ e0 r275 d_leq_11 (rfl : 11 + 1 = 12) ?_
                refine g_icF X0 hx hby d_leq_12 (tlt (by decide : (1 : Int32) < (2 : Int32))).2.1 (rfl : 12 + 3 = 15) ?_
                refine g_aloadN X0 hx hby d_leq_15 rfl rfl (rfl : 15 + 1 = 16) ?_
                refine g_iloadN X0 hx hby d_leq_16 rfl (rfl : 16 + 1 = 17) ?_
                refine g_baload X0 hx hby hZ e0 (v := (.int (own_b1 x))) r275 ⟨by decide, by decide⟩ rfl d_leq_17 (rfl : 17 + 1 = 18) ?_
                refine g_aloadN X0 hx hby d_leq_18 rfl rfl (rfl : 18 + 1 = 19) ?_
                refine g_iloadN X0 hx hby d_leq_19 rfl (rfl : 19 + 1 = 20) ?_
                refine g_baload X0 hx hby hZ e0 (v := (.int (own_b1 y))) r281 ⟨by decide, by decide⟩ rfl d_leq_20 (rfl : 20 + 1 = 21) ?_
                by_cases c283 : (own_b1 x) = (own_b1 y)
                · refine g_icT X0 hx hby d_leq_21 (teq c283).1 (by decide) (pc' := 26) (by decide) ?_
                  refine g_iinc X0 hx hby #[.val (.ref a0), .val (.ref a1), .val (.int ((1 : Int32) + (1 : Int32)))] d_leq_26 rfl rfl (rfl : 26 + 3 = 29) ?_
                  rw [(by decide : ((1 : Int32) + (1 : Int32)) = (2 : Int32))]
                  refine g_goto X0 hx hby d_leq_29 (by decide) (pc' := 9) (by decide) ?_
                  refine g_iloadN X0 hx hby d_leq_9 rfl (rfl : 9 + 1 = 10) ?_
                  refine g_aloadN X0 hx hby d_leq_10 rfl rfl (rfl : 10 + 1 = 11) ?_
                  refine g_alen X0 hx hby hZ e0 r275 d_leq_11 (rfl : 11 + 1 = 12) ?_
                  refine g_icT X0 hx hby d_leq_12 (flt (by decide : ¬ ((2 : Int32) < (2 : Int32)))).2.1 (by decide) (pc' := 32) (by decide) ?_
                  refine g_iconst X0 hx hby (1 : Int32) d_leq_32 (by decide) (rfl : 32 + 1 = 33) ?_
                  refine own_retN X0 hx hby hlk (t := .boolean) hrt (by simp) d_leq_33 (by decide) (by decide) ?_
                  show Q_leq Z a0 a1 x y kb n vs kb' n' vs' h0 n0 _ s₁.heap _
                  exact ⟨(congrArg (fun z => some (Value.int z)) (by rw [F_leq, if_neg c253, if_neg c263, if_pos c274, if_neg c276, if_neg c278, if_pos c280, if_pos c282, if_pos c283] <;> rfl)), N0, e0⟩
                · refine g_icF X0 hx hby d_leq_21 (feq c283).1 (rfl : 21 + 3 = 24) ?_
                  refine g_iconst X0 hx hby (0 : Int32) d_leq_24 (by decide) (rfl : 24 + 1 = 25) ?_
                  refine own_retN X0 hx hby hlk (t := .boolean) hrt (by simp) d_leq_25 (by decide) (by decide) ?_
                  show Q_leq Z a0 a1 x y kb n vs kb' n' vs' h0 n0 _ s₁.heap _
                  exact ⟨(congrArg (fun z => some (Value.int z)) (by rw [F_leq, if_neg c253, if_neg c263, if_pos c274, if_neg c276, if_neg c278, if_pos c280, if_pos c282, if_neg c283] <;> rfl)), N0, e0⟩
              · refine g_icF X0 hx hby d_leq_21 (feq c282).1 (rfl : 21 + 3 = 24) ?_
                refine g_iconst X0 hx hby (0 : Int32) d_leq_24 (by decide) (rfl : 24 + 1 = 25) ?_
                refine own_retN X0 hx hby hlk (t := .boolean) hrt (by simp) d_leq_25 (by decide) (by decide) ?_
                show Q_leq Z a0 a1 x y kb n vs kb' n' vs' h0 n0 _ s₁.heap _
                exact ⟨(congrArg (fun z => some (Value.int z)) (by rw [F_leq, if_neg c253, if_neg c263, if_pos c274, if_neg c276, if_neg c278, if_pos c280, if_neg c282] <;> rfl)), N0, e0⟩
            · by_cases c284 : (own_L y) = (3 : Int32)
              · have r285 : Arv Z h0 a1 kb' .byte (3 : Int32) [(.int (own_b0 y)), (.int (own_b1 y)), (.int (own_b2 y))] (.int (0 : Int32)) := by have q := hp1; rw [(own_st3 hst' c284).1, (own_st3 hst' c284).2] at q; exact q
                refine g_aloadN X0 hx hby d_leq_0 rfl rfl (rfl : 0 + 1 = 1) ?_
                refine g_alen X0 hx hby hZ e0 r275 d_leq_1 (rfl : 1 + 1 = 2) ?_
                refine g_aloadN X0 hx hby d_leq_2 rfl rfl (rfl : 2 + 1 = 3) ?_
                refine g_alen X0 hx hby hZ e0 r285 d_leq_3 (rfl : 3 + 1 = 4) ?_
                refine g_icT X0 hx hby d_leq_4 (feq (by decide : ¬ ((2 : Int32) = (3 : Int32)))).2 (by decide) (pc' := 34) (by decide) ?_
                refine g_iconst X0 hx hby (0 : Int32) d_leq_34 (by decide) (rfl : 34 + 1 = 35) ?_
                refine own_retN X0 hx hby hlk (t := .boolean) hrt (by simp) d_leq_35 (by decide) (by decide) ?_
                show Q_leq Z a0 a1 x y kb n vs kb' n' vs' h0 n0 _ s₁.heap _
                exact ⟨(congrArg (fun z => some (Value.int z)) (by rw [F_leq, if_neg c253, if_neg c263, if_pos c274, if_neg c276, if_neg c278, if_neg c280, if_pos c284] <;> rfl)), N0, e0⟩
              · exact (own_no4 (own_Lc y) c276 c278 c280 c284).elim
      · by_cases c286 : (own_L x) = (3 : Int32)
        · have r287 : Arv Z h0 a0 kb .byte (3 : Int32) [(.int (own_b0 x)), (.int (own_b1 x)), (.int (own_b2 x))] (.int (0 : Int32)) := by have q := hp0; rw [(own_st3 hst c286).1, (own_st3 hst c286).2] at q; exact q
          by_cases c288 : (own_L y) = (0 : Int32)
          · have r289 : Arv Z h0 a1 kb' .byte (0 : Int32) [] (.int (0 : Int32)) := by have q := hp1; rw [(own_st0 hst' c288).1, (own_st0 hst' c288).2] at q; exact q
            refine g_aloadN X0 hx hby d_leq_0 rfl rfl (rfl : 0 + 1 = 1) ?_
            refine g_alen X0 hx hby hZ e0 r287 d_leq_1 (rfl : 1 + 1 = 2) ?_
            refine g_aloadN X0 hx hby d_leq_2 rfl rfl (rfl : 2 + 1 = 3) ?_
            refine g_alen X0 hx hby hZ e0 r289 d_leq_3 (rfl : 3 + 1 = 4) ?_
            refine g_icT X0 hx hby d_leq_4 (feq (by decide : ¬ ((3 : Int32) = (0 : Int32)))).2 (by decide) (pc' := 34) (by decide) ?_
            refine g_iconst X0 hx hby (0 : Int32) d_leq_34 (by decide) (rfl : 34 + 1 = 35) ?_
            refine own_retN X0 hx hby hlk (t := .boolean) hrt (by simp) d_leq_35 (by decide) (by decide) ?_
            show Q_leq Z a0 a1 x y kb n vs kb' n' vs' h0 n0 _ s₁.heap _
            exact ⟨(congrArg (fun z => some (Value.int z)) (by rw [F_leq, if_neg c253, if_neg c263, if_neg c274, if_pos c286, if_pos c288] <;> rfl)), N0, e0⟩
          · by_cases c290 : (own_L y) = (1 : Int32)
            · have r291 : Arv Z h0 a1 kb' .byte (1 : Int32) [(.int (own_b0 y))] (.int (0 : Int32)) := by have q := hp1; rw [(own_st1 hst' c290).1, (own_st1 hst' c290).2] at q; exact q
              refine g_aloadN X0 hx hby d_leq_0 rfl rfl (rfl : 0 + 1 = 1) ?_
              refine g_alen X0 hx hby hZ e0 r287 d_leq_1 (rfl : 1 + 1 = 2) ?_
              refine g_aloadN X0 hx hby d_leq_2 rfl rfl (rfl : 2 + 1 = 3) ?_
              refine g_alen X0 hx hby hZ e0 r291 d_leq_3 (rfl : 3 + 1 = 4) ?_
              refine g_icT X0 hx hby d_leq_4 (feq (by decide : ¬ ((3 : Int32) = (1 : Int32)))).2 (by decide) (pc' := 34) (by decide) ?_
              refine g_iconst X0 hx hby (0 : Int32) d_leq_34 (by decide) (rfl : 34 + 1 = 35) ?_
              refine own_retN X0 hx hby hlk (t := .boolean) hrt (by simp) d_leq_35 (by decide) (by decide) ?_
              show Q_leq Z a0 a1 x y kb n vs kb' n' vs' h0 n0 _ s₁.heap _
              exact ⟨(congrArg (fun z => some (Value.int z)) (by rw [F_leq, if_neg c253, if_neg c263, if_neg c274, if_pos c286, if_neg c288, if_pos c290] <;> rfl)), N0, e0⟩
            · by_cases c292 : (own_L y) = (2 : Int32)
              · have r293 : Arv Z h0 a1 kb' .byte (2 : Int32) [(.int (own_b0 y)), (.int (own_b1 y))] (.int (0 : Int32)) := by have q := hp1; rw [(own_st2 hst' c292).1, (own_st2 hst' c292).2] at q; exact q
                refine g_aloadN X0 hx hby d_leq_0 rfl rfl (rfl : 0 + 1 = 1) ?_
                refine g_alen X0 hx hby hZ e0 r287 d_leq_1 (rfl : 1 + 1 = 2) ?_
                refine g_aloadN X0 hx hby d_leq_2 rfl rfl (rfl : 2 + 1 = 3) ?_
                refine g_alen X0 hx hby hZ e0 r293 d_leq_3 (rfl : 3 + 1 = 4) ?_
                refine g_icT X0 hx hby d_leq_4 (feq (by decide : ¬ ((3 : Int32) = (2 : Int32)))).2 (by decide) (pc' := 34) (by decide) ?_
                refine g_iconst X0 hx hby (0 : Int32) d_leq_34 (by decide) (rfl : 34 + 1 = 35) ?_
                refine own_retN X0 hx hby hlk (t := .boolean) hrt (by simp) d_leq_35 (by decide) (by decide) ?_
                show Q_leq Z a0 a1 x y kb n vs kb' n' vs' h0 n0 _ s₁.heap _
                exact ⟨(congrArg (fun z => some (Value.int z)) (by rw [F_leq, if_neg c253, if_neg c263, if_neg c274, if_pos c286, if_neg c288, if_neg c290, if_pos c292] <;> rfl)), N0, e0⟩
              · by_cases c294 : (own_L y) = (3 : Int32)
                · have r295 : Arv Z h0 a1 kb' .byte (3 : Int32) [(.int (own_b0 y)), (.int (own_b1 y)), (.int (own_b2 y))] (.int (0 : Int32)) := by have q := hp1; rw [(own_st3 hst' c294).1, (own_st3 hst' c294).2] at q; exact q
                  refine g_aloadN X0 hx hby d_leq_0 rfl rfl (rfl : 0 + 1 = 1) ?_
                  refine g_alen X0 hx hby hZ e0 r287 d_leq_1 (rfl : 1 + 1 = 2) ?_
                  refine g_aloadN X0 hx hby d_leq_2 rfl rfl (rfl : 2 + 1 = 3) ?_
                  refine g_alen X0 hx hby hZ e0 r295 d_leq_3 (rfl : 3 + 1 = 4) ?_
                  refine g_icF X0 hx hby d_leq_4 (teq (by decide : (3 : Int32) = (3 : Int32))).2 (rfl : 4 + 3 = 7) ?_
                  refine g_iconst X0 hx hby (0 : Int32) d_leq_7 (by decide) (rfl : 7 + 1 = 8) ?_
                  refine g_istoreN X0 hx hby #[.val (.ref a0), .val (.ref a1), .val (.int (0 : Int32))] d_leq_8 rfl (rfl : 8 + 1 = 9) ?_
                  refine g_iloadN X0 hx hby d_leq_9 rfl (rfl : 9 + 1 = 10) ?_
                  refine g_aloadN X0 hx hby d_leq_10 rfl rfl (rfl : 10 + 1 = 11) ?_
                  refine g_alen X0 hx hby hZ e0 r287 d_leq_11 (rfl : 11 + 1 = 12) ?_
                  refine g_icF X0 hx hby d_leq_12 (tlt (by decide : (0 : Int32) < (3 : Int32))).2.1 (rfl : 12 + 3 = 15) ?_
                  refine g_aloadN X0 hx hby d_leq_15 rfl rfl (rfl : 15 + 1 = 16) ?_
                  refine g_iloadN X0 hx hby d_leq_16 rfl (rfl : 16 + 1 = 17) ?_
                  refine g_baload X0 hx hby hZ e0 (v := (.int (own_b0 x))) r287 ⟨by decide, by decide⟩ rfl d_leq_17 (rfl : 17 + 1 = 18) ?_
                  refine g_aloadN X0 hx hby d_leq_18 rfl rfl (rfl : 18 + 1 = 19) ?_
                  refine g_iloadN X0 hx hby d_leq_19 rfl (rfl : 19 + 1 = 20) ?_
                  refine g_baload X0 hx hby hZ e0 (v := (.int (own_b0 y))) r295 ⟨by decide, by decide⟩ rfl d_leq_20 (rfl : 20 + 1 = 21) ?_
                  by_cases c296 : (own_b0 x) = (own_b0 y)
                  · refine g_icT X0 hx hby d_leq_21 (teq c296).1 (by decide) (pc' := 26) (by decide) ?_
                    refine g_iinc X0 hx hby #[.val (.ref a0), .val (.ref a1), .val (.int ((0 : Int32) + (1 : Int32)))] d_leq_26 rfl rfl (rfl : 26 + 3 = 29) ?_
                    rw [(by decide : ((0 : Int32) + (1 : Int32)) = (1 : Int32))]
                    refine g_goto X0 hx hby d_leq_29 (by decide) (pc' := 9) (by decide) ?_
                    refine g_iloadN X0 hx hby d_leq_9 rfl (rfl : 9 + 1 = 10) ?_
                    refine g_aloadN X0 hx hby d_leq_10 rfl rfl (rfl : 10 + 1 = 11) ?_
                    refine g_alen X0 hx hby hZ e0 r287 d_leq_11 (rfl : 11 + 1 = 12) ?_
                    refine g_icF X0 hx hby d_leq_12 (tlt (by decide : (1 : Int32) < (3 : Int32))).2.1 (rfl : 12 + 3 = 15) ?_
                    refine g_aloadN X0 hx hby d_leq_15 rfl rfl (rfl : 15 + 1 = 16) ?_
                    refine g_iloadN X0 hx hby d_leq_16 rfl (rfl : 16 + 1 = 17) ?_
                    refine g_baload X0 hx hby hZ e0 (v := (.int (own_b1 x))) r287 ⟨by decide, by decide⟩ rfl d_leq_17 (rfl : 17 + 1 = 18) ?_
                    refine g_aloadN X0 hx hby d_leq_18 rfl rfl (rfl : 18 + 1 = 19) ?_
                    refine g_iloadN X0 hx hby d_leq_19 rfl (rfl : 19 + 1 = 20) ?_
                    refine g_baload X0 hx hby hZ e0 (v := (.int (own_b1 y))) r295 ⟨by decide, by decide⟩ rfl d_leq_20 (rfl : 20 + 1 = 21) ?_
                    by_cases c297 : (own_b1 x) = (own_b1 y)
                    · refine g_icT X0 hx hby d_leq_21 (teq c297).1 (by decide) (pc' := 26) (by decide) ?_
                      refine g_iinc X0 hx hby #[.val (.ref a0), .val (.ref a1), .val (.int ((1 : Int32) + (1 : Int32)))] d_leq_26 rfl rfl (rfl : 26 + 3 = 29) ?_
                      rw [(by decide : ((1 : Int32) + (1 : Int32)) = (2 : Int32))]
                      refine g_goto X0 hx hby d_leq_29 (by decide) (pc' := 9) (by decide) ?_
                      refine g_iloadN X0 hx hby d_leq_9 rfl (rfl : 9 + 1 = 10) ?_
                      refine g_aloadN X0 hx hby d_leq_10 rfl rfl (rfl : 10 + 1 = 11) ?_
                      refine g_alen X0 hx hby hZ e0 r287 d_leq_11 (rfl : 11 + 1 = 12) ?_
                      refine g_icF X0 hx hby d_leq_12 (tlt (by decide : (2 : Int32) < (3 : Int32))).2.1 (rfl : 12 + 3 = 15) ?_
                      refine g_aloadN X0 hx hby d_leq_15 rfl rfl (rfl : 15 + 1 = 16) ?_
                      refine g_iloadN X0 hx hby d_leq_16 rfl (rfl : 16 + 1 = 17) ?_
                      refine g_baload X0 hx hby hZ e0 (v := (.int (own_b2 x))) r287 ⟨by decide, by decide⟩ rfl d_leq_17 (rfl : 17 + 1 = 18) ?_
                      refine g_aloadN X0 hx hby d_leq_18 rfl rfl (rfl : 18 + 1 = 19) ?_
                      refine g_iloadN X0 hx hby d_leq_19 rfl (rfl : 19 + 1 = 20) ?_
                      refine g_baload X0 hx hby hZ e0 (v := (.int (own_b2 y))) r295 ⟨by decide, by decide⟩ rfl d_leq_20 (rfl : 20 + 1 = 21) ?_
                      by_cases c298 : (own_b2 x) = (own_b2 y)
                      · refine g_icT X0 hx hby d_leq_21 (teq c298).1 (by decide) (pc' := 26) (by decide) ?_
                        refine g_iinc X0 hx hby #[.val (.ref a0), .val (.ref a1), .val (.int ((2 : Int32) + (1 : Int32)))] d_leq_26 rfl rfl (rfl : 26 + 3 = 29) ?_
                        rw [(by decide : ((2 : Int32) + (1 : Int32)) = (3 : Int32))]
                        refine g_goto X0 hx hby d_leq_29 (by decide) (pc' := 9) (by decide) ?_
                        refine g_iloadN X0 hx hby d_leq_9 rfl (rfl : 9 + 1 = 10) ?_
                        refine g_aloadN X0 hx hby d_leq_10 rfl rfl (rfl : 10 + 1 = 11) ?_
                        refine g_alen X0 hx hby hZ e0 r287 d_leq_11 (rfl : 11 + 1 = 12) ?_
                        refine g_icT X0 hx hby d_leq_12 (flt (by decide : ¬ ((3 : Int32) < (3 : Int32)))).2.1 (by decide) (pc' := 32) (by decide) ?_
                        refine g_iconst X0 hx hby (1 : Int32) d_leq_32 (by decide) (rfl : 32 + 1 = 33) ?_
                        refine own_retN X0 hx hby hlk (t := .boolean) hrt (by simp) d_leq_33 (by decide) (by decide) ?_
                        show Q_leq Z a0 a1 x y kb n vs kb' n' vs' h0 n0 _ s₁.heap _
                        exact ⟨(congrArg (fun z => some (Value.int z)) (by rw [F_leq, if_neg c253, if_neg c263, if_neg c274, if_pos c286, if_neg c288, if_neg c290, if_neg c292, if_pos c294, if_pos c296, if_pos c297, if_pos c298] <;> rfl)), N0, e0⟩
                      · refine g_icF X0 hx hby d_leq_21 (feq c298).1 (rfl : 21 + 3 = 24) ?_
                        refine g_iconst X0 hx hby (0 : Int32) d_leq_24 (by decide) (rfl : 24 + 1 = 25) ?_
                        refine own_retN X0 hx hby hlk (t := .boolean) hrt (by simp) d_leq_25 (by decide) (by decide) ?_
                        show Q_leq Z a0 a1 x y kb n vs kb' n' vs' h0 n0 _ s₁.heap _
                        exact ⟨(congrArg (fun z => some (Value.int z)) (by rw [F_leq, if_neg c253, if_neg c263, if_neg c274, if_pos c286, if_neg c288, if_neg c290, if_neg c292, if_pos c294, if_pos c296, if_pos c297, if_neg c298] <;> rfl)), N0, e0⟩
                    · refine g_icF X0 hx hby d_leq_21 (feq c297).1 (rfl : 21 + 3 = 24) ?_
                      refine g_iconst X0 hx hby (0 : Int32) d_leq_24 (by decide) (rfl : 24 + 1 = 25) ?_
                      refine own_retN X0 hx hby hlk (t := .boolean) hrt (by simp) d_leq_25 (by decide) (by decide) ?_
                      show Q_leq Z a0 a1 x y kb n vs kb' n' vs' h0 n0 _ s₁.heap _
                      exact ⟨(congrArg (fun z => some (Value.int z)) (by rw [F_leq, if_neg c253, if_neg c263, if_neg c274, if_pos c286, if_neg c288, if_neg c290, if_neg c292, if_pos c294, if_pos c296, if_neg c297] <;> rfl)), N0, e0⟩
                  · refine g_icF X0 hx hby d_leq_21 (feq c296).1 (rfl : 21 + 3 = 24) ?_
                    refine g_iconst X0 hx hby (0 : Int32) d_leq_24 (by decide) (rfl : 24 + 1 = 25) ?_
                    refine own_retN X0 hx hby hlk (t := .boolean) hrt (by simp) d_leq_25 (by decide) (by decide) ?_
                    show Q_leq Z a0 a1 x y kb n vs kb' n' vs' h0 n0 _ s₁.heap _
                    exact ⟨(congrArg (fun z => some (Value.int z)) (by rw [F_leq, if_neg c253, if_neg c263, if_neg c274, if_pos c286, if_neg c288, if_neg c290, if_neg c292, if_pos c294, if_neg c296] <;> rfl)), N0, e0⟩
                · exact (own_no4 (own_Lc y) c288 c290 c292 c294).elim
        · exact (own_no4 (own_Lc x) c253 c263 c274 c286).elim
theorem d_seq_0 : decode jdk_42_method_66_code 0 = .ok (.aload_n 0, 1) := by decide +kernel
theorem d_seq_1 : decode jdk_42_method_66_code 1 = .ok (.aload_n 1, 1) := by decide +kernel
theorem d_seq_2 : decode jdk_42_method_66_code 2 = .ok (.if_acmp .ne 5, 3) := by decide +kernel
theorem d_seq_7 : decode jdk_42_method_66_code 7 = .ok (.aload_n 1, 1) := by decide +kernel
theorem d_seq_8 : decode jdk_42_method_66_code 8 = .ok (.instanceof 10, 3) := by decide +kernel
theorem d_seq_11 : decode jdk_42_method_66_code 11 = .ok (.ifCond .eq 43, 3) := by decide +kernel
theorem d_seq_14 : decode jdk_42_method_66_code 14 = .ok (.aload_n 1, 1) := by decide +kernel
theorem d_seq_15 : decode jdk_42_method_66_code 15 = .ok (.checkcast 10, 3) := by decide +kernel
theorem d_seq_18 : decode jdk_42_method_66_code 18 = .ok (.astore_n 2, 1) := by decide +kernel
theorem d_seq_19 : decode jdk_42_method_66_code 19 = .ok (.getstatic 38, 3) := by decide +kernel
theorem d_seq_22 : decode jdk_42_method_66_code 22 = .ok (.ifCond .eq 14, 3) := by decide +kernel
theorem d_seq_25 : decode jdk_42_method_66_code 25 = .ok (.aload_n 0, 1) := by decide +kernel
theorem d_seq_26 : decode jdk_42_method_66_code 26 = .ok (.getfield 15, 3) := by decide +kernel
theorem d_seq_29 : decode jdk_42_method_66_code 29 = .ok (.aload_n 2, 1) := by decide +kernel
theorem d_seq_30 : decode jdk_42_method_66_code 30 = .ok (.getfield 15, 3) := by decide +kernel
theorem d_seq_33 : decode jdk_42_method_66_code 33 = .ok (.if_icmp .ne 21, 3) := by decide +kernel
theorem d_seq_36 : decode jdk_42_method_66_code 36 = .ok (.aload_n 0, 1) := by decide +kernel
theorem d_seq_37 : decode jdk_42_method_66_code 37 = .ok (.getfield 9, 3) := by decide +kernel
theorem d_seq_40 : decode jdk_42_method_66_code 40 = .ok (.aload_n 2, 1) := by decide +kernel
theorem d_seq_41 : decode jdk_42_method_66_code 41 = .ok (.getfield 9, 3) := by decide +kernel
theorem d_seq_44 : decode jdk_42_method_66_code 44 = .ok (.invokestatic 541, 3) := by decide +kernel
theorem d_seq_47 : decode jdk_42_method_66_code 47 = .ok (.ifCond .eq 7, 3) := by decide +kernel
theorem d_seq_50 : decode jdk_42_method_66_code 50 = .ok (.iconst 1, 1) := by decide +kernel
theorem d_seq_51 : decode jdk_42_method_66_code 51 = .ok (.goto 4, 3) := by decide +kernel
theorem d_seq_54 : decode jdk_42_method_66_code 54 = .ok (.iconst 0, 1) := by decide +kernel
theorem d_seq_55 : decode jdk_42_method_66_code 55 = .ok (.ireturn, 1) := by decide +kernel
theorem pd6 : parseMethodDescriptor "([B[B)Z" = some ⟨[(.array .byte), (.array .byte)], some .boolean⟩ := by decide +kernel
theorem ef_seq (m : MethodId) (a0 : Addr) (a1 : Addr) : entryFrame m #[(.ref a0), (.ref a1)] 3 = mkF m 0 #[.val (.ref a0), .val (.ref a1), .unset] [] := by first | (simp [entryFrame, mkF, argsToLocals, Value.category]; done) | rfl
def F_seq (x : Int32) (y : Int32) : Int32 := if (F_leq x y) = (0 : Int32) then ((0 : Int32)) else ((1 : Int32))
def Q_seq (Z : State) (a0 : Addr) (a1 : Addr) (x : Int32) (y : Int32) (ob : Addr) (kb : ClassId) (n : Int32) (vs : List Value) (ob' : Addr) (kb' : ClassId) (n' : Int32) (vs' : List Value) (g1 : Int32) (h0 : Heap) (n0 : Nat) (v : Option Value) (h : Heap) (L : List Loc) : Prop := v = some (.int (F_seq x y)) ∧ Fr n0 L ∧ h = h0
set_option maxRecDepth 65536 in
set_option maxHeartbeats 40000000 in
theorem rm_seq (l : Launch) (Z : State) (aT : Array Value) (hw : ∀ d ∈ tables_1, d.before aT Z = true) (ws : List Jvm.Cond) (a0 : Addr) (a1 : Addr) (x : Int32) (y : Int32) (ob : Addr) (kb : ClassId) (n : Int32) (vs : List Value) (ob' : Addr) (kb' : ClassId) (n' : Int32) (vs' : List Value) (g1 : Int32) (h0 : Heap) (n0 : Nat) (Z0 : n0 ≤ h0.size) (hp0 : a0 ≠ a1) (hp1 : Exa Z h0 a0 "java/lang/String") (hp2 : Fld Z h0 a0 "java/lang/String" "coder" "B" (.int (0 : Int32))) (hp3 : Fld Z h0 a0 "java/lang/String" "value" "[B" (.ref ob)) (hp4 : Arv Z h0 ob kb .byte n vs (.int (0 : Int32))) (hp5 : Exa Z h0 a1 "java/lang/String") (hp6 : Fld Z h0 a1 "java/lang/String" "coder" "B" (.int (0 : Int32))) (hp7 : Fld Z h0 a1 "java/lang/String" "value" "[B" (.ref ob')) (hp8 : Arv Z h0 ob' kb' .byte n' vs' (.int (0 : Int32))) (hp9 : Sta Z h0 "java/lang/String" "COMPACT_STRINGS" "Z" (.int g1)) (hg1 : ¬ (g1 = (0 : Int32))) (hst : own_st x n vs) (hst' : own_st y n' vs') :
    MetFree l (⟨"java/lang/String", "equals", "(Ljava/lang/Object;)Z"⟩ : MethodName) (head1 (Jvm.Cond.code (⟨"java/lang/String", "equals", "(Ljava/lang/Object;)Z"⟩ : MethodName) jdk_42_method_66_code 3 (some .boolean) :: ws) ({ frames := 1, cells := 0, slots := 0, locals := 14 } : Room)) (fun a U => a = #[(.ref a0), (.ref a1)] ∧ Z.Warmed39 U.vm ∧ U.heap = h0) (fun _ _ _ _ _ => True) (fun _ U o U' => ∃ v L, o = .returned v ∧ Q_seq Z a0 a1 x y ob kb n vs ob' kb' n' vs' g1 h0 n0 v U'.heap L ∧ FrameEnd U o U' L ({ frames := 1, cells := 0, slots := 0, locals := 14 } : Room).cells ({ frames := 1, cells := 0, slots := 0, locals := 14 } : Room).slots) := by
  refine MetFree.of_bodySF (plainFor_of_name pn1) hisR ?_
  intro p e s m args below meth c s₁ Bd hml0 hP hK
  obtain ⟨rfl, hZ, hh⟩ := hP
  have hx := Bd.exec
  have hby := Bd.bytes
  have hml : c.maxLocals = 3 := hml0
  have hown : s.vm.findClass "java/lang/String" = some m.cls := findClass_of_methodNamed Bd.named
  have hnm := (name_of_methodNamed Bd.named Bd.method).1
  have hlk := Bd.notSynchronized
  have hrt := Bd.returns
  have X0 : Stand p l e ({ frames := 1, cells := 0, slots := 0, locals := 14 } : Room) s m #[(.ref a0), (.ref a1)] below meth c s₁ [] 0 0 := Stand.of_body Bd
  have e0 : s₁.heap = h0 := by rw [← hh, Bd.state]; rfl
  have N0 := Fr.nil n0
  refine own_cast (P := own_End s (Q_seq Z a0 a1 x y ob kb n vs ob' kb' n' vs' g1 h0 n0) ({ frames := 1, cells := 0, slots := 0, locals := 14 } : Room).cells ({ frames := 1, cells := 0, slots := 0, locals := 14 } : Room).slots) (ef_seq m a0 a1) ?_
  refine g_aloadN X0 hx hby d_seq_0 rfl rfl (rfl : 0 + 1 = 1) ?_
  refine g_aloadN X0 hx hby d_seq_1 rfl rfl (rfl : 1 + 1 = 2) ?_
  refine g_acmp X0 hx hby (pc' := 7) false d_seq_2 rfl rfl (decide_eq_false fun q => hp0 (Value.ref.inj q)) (by decide) (by decide) ?_
  refine g_aloadN X0 hx hby d_seq_7 rfl rfl (rfl : 7 + 1 = 8) ?_
  obtain ⟨T299, X299, e299, st299⟩ := instY X0 hx hZ hown (hw _ (List.mem_of_getElem? (i := 59) rfl)) e0 (Ins.self hp5) (g := (mkF m 8 #[.val (.ref a0), .val (.ref a1), .unset] [(.ref a1)])) rfl rfl (hb hby d_seq_8)
  refine own_go st299 ?_
  show own_Got p e below _ T299 (mkF m 11 #[.val (.ref a0), .val (.ref a1), .unset] [(.int (1 : Int32))])
  refine g_ifF X299 hx hby d_seq_11 ((if0 _ _).trans (feq (by decide : ¬ ((1 : Int32) = (0 : Int32)))).1) (rfl : 11 + 3 = 14) ?_
  refine g_aloadN X299 hx hby d_seq_14 rfl rfl (rfl : 14 + 1 = 15) ?_
  obtain ⟨T300, X300, e300, st300⟩ := castY X299 hx hZ hown (hw _ (List.mem_of_getElem? (i := 59) rfl)) e299 (Ins.self hp5) (g := (mkF m 15 #[.val (.ref a0), .val (.ref a1), .unset] [(.ref a1)])) rfl rfl (hb hby d_seq_15)
  refine own_go st300 ?_
  show own_Got p e below _ T300 (mkF m 18 #[.val (.ref a0), .val (.ref a1), .unset] [(.ref a1)])
  refine g_astoreN X300 hx hby #[.val (.ref a0), .val (.ref a1), .val (.ref a1)] d_seq_18 rfl rfl (rfl : 18 + 1 = 19) ?_
  obtain ⟨T301, X301, e301, st301⟩ := getS2 X300 hx hZ hown (host := "") (Or.inl (hw _ (List.mem_of_getElem? (i := 60) rfl))) Via.refl e300 hp9 (g := (mkF m 19 #[.val (.ref a0), .val (.ref a1), .val (.ref a1)] [])) rfl (hb hby d_seq_19)
  refine own_go st301 ?_
  show own_Got p e below _ T301 (mkF m 22 #[.val (.ref a0), .val (.ref a1), .val (.ref a1)] [(.int g1)])
  refine g_ifF X301 hx hby d_seq_22 ((if0 _ _).trans (feq hg1).1) (rfl : 22 + 3 = 25) ?_
  refine g_aloadN X301 hx hby d_seq_25 rfl rfl (rfl : 25 + 1 = 26) ?_
  obtain ⟨T302, X302, e302, st302⟩ := getF X301 hx hZ hown (host := "") (Or.inl (hw _ (List.mem_of_getElem? (i := 28) rfl))) Via.refl e301 hp2 (g := (mkF m 26 #[.val (.ref a0), .val (.ref a1), .val (.ref a1)] [(.ref a0)])) rfl rfl (hb hby d_seq_26)
  refine own_go st302 ?_
  show own_Got p e below _ T302 (mkF m 29 #[.val (.ref a0), .val (.ref a1), .val (.ref a1)] [(.int (0 : Int32))])
  refine g_aloadN X302 hx hby d_seq_29 rfl rfl (rfl : 29 + 1 = 30) ?_
  obtain ⟨T303, X303, e303, st303⟩ := getF X302 hx hZ hown (host := "") (Or.inl (hw _ (List.mem_of_getElem? (i := 28) rfl))) Via.refl e302 hp6 (g := (mkF m 30 #[.val (.ref a0), .val (.ref a1), .val (.ref a1)] [(.ref a1), (.int (0 : Int32))])) rfl rfl (hb hby d_seq_30)
  refine own_go st303 ?_
  show own_Got p e below _ T303 (mkF m 33 #[.val (.ref a0), .val (.ref a1), .val (.ref a1)] [(.int (0 : Int32)), (.int (0 : Int32))])
  refine g_icF X303 hx hby d_seq_33 (teq (by decide : (0 : Int32) = (0 : Int32))).2 (rfl : 33 + 3 = 36) ?_
  refine g_aloadN X303 hx hby d_seq_36 rfl rfl (rfl : 36 + 1 = 37) ?_
  obtain ⟨T304, X304, e304, st304⟩ := getF X303 hx hZ hown (host := "") (Or.inl (hw _ (List.mem_of_getElem? (i := 27) rfl))) Via.refl e303 hp3 (g := (mkF m 37 #[.val (.ref a0), .val (.ref a1), .val (.ref a1)] [(.ref a0)])) rfl rfl (hb hby d_seq_37)
  refine own_go st304 ?_
  show own_Got p e below _ T304 (mkF m 40 #[.val (.ref a0), .val (.ref a1), .val (.ref a1)] [(.ref ob)])
  refine g_aloadN X304 hx hby d_seq_40 rfl rfl (rfl : 40 + 1 = 41) ?_
  obtain ⟨T305, X305, e305, st305⟩ := getF X304 hx hZ hown (host := "") (Or.inl (hw _ (List.mem_of_getElem? (i := 27) rfl))) Via.refl e304 hp7 (g := (mkF m 41 #[.val (.ref a0), .val (.ref a1), .val (.ref a1)] [(.ref a1), (.ref ob)])) rfl rfl (hb hby d_seq_41)
  refine own_go st305 ?_
  show own_Got p e below _ T305 (mkF m 44 #[.val (.ref a0), .val (.ref a1), .val (.ref a1)] [(.ref ob'), (.ref ob)])
  obtain ⟨_, _, ⟨T306, L306, k306, n306⟩, -, X306, ⟨Lc306, hQ306, l306, y306, z306⟩, st306⟩ := Jvm.LawKit.callS X305 hx (y := (⟨"java/lang/StringLatin1", "equals", "([B[B)Z"⟩ : MethodName)) hown (mvT hZ (hw _ (List.mem_of_getElem? (i := 61) rfl))) (mvT hZ (hw _ (List.mem_of_getElem? (i := 62) rfl))) (mvT hZ (hw _ (List.mem_of_getElem? (i := 63) rfl))) (mvT hZ (hw _ (List.mem_of_getElem? (i := 64) rfl))) (by decide) (backOf (W := 0) (rm_leq l Z aT hw [] ob ob' _ _ kb n vs kb' n' vs' h0 n0 Z0 hp4 hp8 hst hst') hZ (hw _ (List.mem_of_getElem? (i := 64) rfl)) (hw _ (List.mem_of_getElem? (i := 63) rfl)) (by decide) (by decide)) (g := (mkF m 44 #[.val (.ref a0), .val (.ref a1), .val (.ref a1)] [(.ref ob'), (.ref ob)])) rfl (by rw [hml]; rfl) (argsL := [(.ref ob), (.ref ob')]) (rest := []) (lenOf pd6 rfl) rfl (by show 2 * 0 + _ ≤ _; exact Nat.le_of_eq rfl) (hb hby d_seq_44) (fun _ _ => ⟨rfl, e305, (by decide : 0 + 0 ≤ _), (by decide : 0 + 0 ≤ _)⟩)
  dsimp only [Pt.U, Pt.locs, Pt.cells, Pt.slots] at X306 l306 y306 z306 st306 hQ306
  subst l306 y306 z306
  obtain ⟨rfl, N306q, eq306⟩ := hQ306
  have N306 := Fr.app N0 N306q
  refine own_go st306 ?_
  show own_Got p e below _ T306 (mkF m 47 #[.val (.ref a0), .val (.ref a1), .val (.ref a1)] [(.int (F_leq x y))])
  by_cases c307 : (F_leq x y) = (0 : Int32)
  · refine g_ifT X306 hx hby d_seq_47 ((if0 _ _).trans (teq c307).1) (by decide) (pc' := 54) (by decide) ?_
    refine g_iconst X306 hx hby (0 : Int32) d_seq_54 (by decide) (rfl : 54 + 1 = 55) ?_
    refine own_retN X306 hx hby hlk (t := .boolean) hrt (by simp) d_seq_55 (by decide) (by decide) ?_
    show Q_seq Z a0 a1 x y ob kb n vs ob' kb' n' vs' g1 h0 n0 _ T306.heap _
    exact ⟨(congrArg (fun z => some (Value.int z)) (by rw [F_seq, if_pos c307] <;> rfl)), N306, eq306⟩
  · refine g_ifF X306 hx hby d_seq_47 ((if0 _ _).trans (feq c307).1) (rfl : 47 + 3 = 50) ?_
    refine g_iconst X306 hx hby (1 : Int32) d_seq_50 (by decide) (rfl : 50 + 1 = 51) ?_
    refine g_goto X306 hx hby d_seq_51 (by decide) (pc' := 55) (by decide) ?_
    refine own_retN X306 hx hby hlk (t := .boolean) hrt (by simp) d_seq_55 (by decide) (by decide) ?_
    show Q_seq Z a0 a1 x y ob kb n vs ob' kb' n' vs' g1 h0 n0 _ T306.heap _
    exact ⟨(congrArg (fun z => some (Value.int z)) (by rw [F_seq, if_neg c307] <;> rfl)), N306, eq306⟩
theorem d_peN_0 : decode prog_59_method_7_code 0 = .ok (.aload_n 1, 1) := by decide +kernel
theorem d_peN_1 : decode prog_59_method_7_code 1 = .ok (.instanceof 18, 3) := by decide +kernel
theorem d_peN_4 : decode prog_59_method_7_code 4 = .ok (.ifCond .eq 40, 3) := by decide +kernel
theorem d_peN_44 : decode prog_59_method_7_code 44 = .ok (.iconst 0, 1) := by decide +kernel
theorem d_peN_45 : decode prog_59_method_7_code 45 = .ok (.ireturn, 1) := by decide +kernel
theorem ef_peN (m : MethodId) (a0 : Addr) : entryFrame m #[(.ref a0), .null] 3 = mkF m 0 #[.val (.ref a0), .val .null, .unset] [] := by first | (simp [entryFrame, mkF, argsToLocals, Value.category]; done) | rfl
def Q_peN (Z : State) (a0 : Addr) (h0 : Heap) (n0 : Nat) (v : Option Value) (h : Heap) (L : List Loc) : Prop := v = some (.int (0 : Int32)) ∧ Fr n0 L ∧ h = h0
set_option maxRecDepth 65536 in
set_option maxHeartbeats 40000000 in
theorem rm_peN (l : Launch) (Z : State) (aT : Array Value) (hw : ∀ d ∈ tables_1, d.before aT Z = true) (ws : List Jvm.Cond) (a0 : Addr) (h0 : Heap) (n0 : Nat) (Z0 : n0 ≤ h0.size) :
    MetFree l (⟨"com/example/forcon/forcon/model/Permission", "equals", "(Ljava/lang/Object;)Z"⟩ : MethodName) (head1 (Jvm.Cond.code (⟨"com/example/forcon/forcon/model/Permission", "equals", "(Ljava/lang/Object;)Z"⟩ : MethodName) prog_59_method_7_code 3 (some .boolean) :: ws) ({ frames := 0, cells := 0, slots := 0, locals := 0 } : Room)) (fun a U => a = #[(.ref a0), .null] ∧ Z.Warmed39 U.vm ∧ U.heap = h0) (fun _ _ _ _ _ => True) (fun _ U o U' => ∃ v L, o = .returned v ∧ Q_peN Z a0 h0 n0 v U'.heap L ∧ FrameEnd U o U' L ({ frames := 0, cells := 0, slots := 0, locals := 0 } : Room).cells ({ frames := 0, cells := 0, slots := 0, locals := 0 } : Room).slots) := by
  refine MetFree.of_bodySF (plainFor_of_name pn4) hisR ?_
  intro p e s m args below meth c s₁ Bd hml0 hP hK
  obtain ⟨rfl, hZ, hh⟩ := hP
  have hx := Bd.exec
  have hby := Bd.bytes
  have hml : c.maxLocals = 3 := hml0
  have hown : s.vm.findClass "com/example/forcon/forcon/model/Permission" = some m.cls := findClass_of_methodNamed Bd.named
  have hnm := (name_of_methodNamed Bd.named Bd.method).1
  have hlk := Bd.notSynchronized
  have hrt := Bd.returns
  have X0 : Stand p l e ({ frames := 0, cells := 0, slots := 0, locals := 0 } : Room) s m #[(.ref a0), .null] below meth c s₁ [] 0 0 := Stand.of_body Bd
  have e0 : s₁.heap = h0 := by rw [← hh, Bd.state]; rfl
  have N0 := Fr.nil n0
  refine own_cast (P := own_End s (Q_peN Z a0 h0 n0) ({ frames := 0, cells := 0, slots := 0, locals := 0 } : Room).cells ({ frames := 0, cells := 0, slots := 0, locals := 0 } : Room).slots) (ef_peN m a0) ?_
  refine g_aloadN X0 hx hby d_peN_0 rfl rfl (rfl : 0 + 1 = 1) ?_
  refine own_go (X0.instanceofNull hx (g := (mkF m 1 #[.val (.ref a0), .val .null, .unset] [.null])) rfl rfl (hb hby d_peN_1)) ?_
  show own_Got p e below _ s₁ (mkF m 4 #[.val (.ref a0), .val .null, .unset] [(.int (0 : Int32))])
  refine g_ifT X0 hx hby d_peN_4 ((if0 _ _).trans (teq (by decide : (0 : Int32) = (0 : Int32))).1) (by decide) (pc' := 44) (by decide) ?_
  refine g_iconst X0 hx hby (0 : Int32) d_peN_44 (by decide) (rfl : 44 + 1 = 45) ?_
  refine own_retN X0 hx hby hlk (t := .boolean) hrt (by simp) d_peN_45 (by decide) (by decide) ?_
  show Q_peN Z a0 h0 n0 _ s₁.heap _
  exact ⟨rfl, N0, e0⟩
theorem d_peS_0 : decode prog_59_method_7_code 0 = .ok (.aload_n 1, 1) := by decide +kernel
theorem d_peS_1 : decode prog_59_method_7_code 1 = .ok (.instanceof 18, 3) := by decide +kernel
theorem d_peS_4 : decode prog_59_method_7_code 4 = .ok (.ifCond .eq 40, 3) := by decide +kernel
theorem d_peS_44 : decode prog_59_method_7_code 44 = .ok (.iconst 0, 1) := by decide +kernel
theorem d_peS_45 : decode prog_59_method_7_code 45 = .ok (.ireturn, 1) := by decide +kernel
theorem ef_peS (m : MethodId) (a0 : Addr) (a1 : Addr) : entryFrame m #[(.ref a0), (.ref a1)] 3 = mkF m 0 #[.val (.ref a0), .val (.ref a1), .unset] [] := by first | (simp [entryFrame, mkF, argsToLocals, Value.category]; done) | rfl
def Q_peS (Z : State) (a0 : Addr) (a1 : Addr) (h0 : Heap) (n0 : Nat) (v : Option Value) (h : Heap) (L : List Loc) : Prop := v = some (.int (0 : Int32)) ∧ Fr n0 L ∧ h = h0
set_option maxRecDepth 65536 in
set_option maxHeartbeats 40000000 in
theorem rm_peS (l : Launch) (Z : State) (aT : Array Value) (hw : ∀ d ∈ tables_1, d.before aT Z = true) (ws : List Jvm.Cond) (a0 : Addr) (a1 : Addr) (h0 : Heap) (n0 : Nat) (Z0 : n0 ≤ h0.size) (hp0 : Exa Z h0 a1 "java/lang/String") :
    MetFree l (⟨"com/example/forcon/forcon/model/Permission", "equals", "(Ljava/lang/Object;)Z"⟩ : MethodName) (head1 (Jvm.Cond.code (⟨"com/example/forcon/forcon/model/Permission", "equals", "(Ljava/lang/Object;)Z"⟩ : MethodName) prog_59_method_7_code 3 (some .boolean) :: ws) ({ frames := 0, cells := 0, slots := 0, locals := 0 } : Room)) (fun a U => a = #[(.ref a0), (.ref a1)] ∧ Z.Warmed39 U.vm ∧ U.heap = h0) (fun _ _ _ _ _ => True) (fun _ U o U' => ∃ v L, o = .returned v ∧ Q_peS Z a0 a1 h0 n0 v U'.heap L ∧ FrameEnd U o U' L ({ frames := 0, cells := 0, slots := 0, locals := 0 } : Room).cells ({ frames := 0, cells := 0, slots := 0, locals := 0 } : Room).slots) := by
  refine MetFree.of_bodySF (plainFor_of_name pn4) hisR ?_
  intro p e s m args below meth c s₁ Bd hml0 hP hK
  obtain ⟨rfl, hZ, hh⟩ := hP
  have hx := Bd.exec
  have hby := Bd.bytes
  have hml : c.maxLocals = 3 := hml0
  have hown : s.vm.findClass "com/example/forcon/forcon/model/Permission" = some m.cls := findClass_of_methodNamed Bd.named
  have hnm := (name_of_methodNamed Bd.named Bd.method).1
  have hlk := Bd.notSynchronized
  have hrt := Bd.returns
  have X0 : Stand p l e ({ frames := 0, cells := 0, slots := 0, locals := 0 } : Room) s m #[(.ref a0), (.ref a1)] below meth c s₁ [] 0 0 := Stand.of_body Bd
  have e0 : s₁.heap = h0 := by rw [← hh, Bd.state]; rfl
  have N0 := Fr.nil n0
  refine own_cast (P := own_End s (Q_peS Z a0 a1 h0 n0) ({ frames := 0, cells := 0, slots := 0, locals := 0 } : Room).cells ({ frames := 0, cells := 0, slots := 0, locals := 0 } : Room).slots) (ef_peS m a0 a1) ?_
  refine g_aloadN X0 hx hby d_peS_0 rfl rfl (rfl : 0 + 1 = 1) ?_
  obtain ⟨T309, X309, e309, st309⟩ := instNo X0 hx hZ hown (hw _ (List.mem_of_getElem? (i := 52) rfl)) e0 hp0 (own_apart (hw _ (List.mem_of_getElem? (i := 203) rfl)) (hw _ (List.mem_of_getElem? (i := 204) rfl)) (hw _ (List.mem_of_getElem? (i := 1) rfl)) (by decide) (by decide)) (g := (mkF m 1 #[.val (.ref a0), .val (.ref a1), .unset] [(.ref a1)])) rfl rfl (hb hby d_peS_1)
  refine own_go st309 ?_
  show own_Got p e below _ T309 (mkF m 4 #[.val (.ref a0), .val (.ref a1), .unset] [(.int (0 : Int32))])
  refine g_ifT X309 hx hby d_peS_4 ((if0 _ _).trans (teq (by decide : (0 : Int32) = (0 : Int32))).1) (by decide) (pc' := 44) (by decide) ?_
  refine g_iconst X309 hx hby (0 : Int32) d_peS_44 (by decide) (rfl : 44 + 1 = 45) ?_
  refine own_retN X309 hx hby hlk (t := .boolean) hrt (by simp) d_peS_45 (by decide) (by decide) ?_
  show Q_peS Z a0 a1 h0 n0 _ T309.heap _
  exact ⟨rfl, N0, e309⟩
theorem d_peI_0 : decode prog_59_method_7_code 0 = .ok (.aload_n 1, 1) := by decide +kernel
theorem d_peI_1 : decode prog_59_method_7_code 1 = .ok (.instanceof 18, 3) := by decide +kernel
theorem d_peI_4 : decode prog_59_method_7_code 4 = .ok (.ifCond .eq 40, 3) := by decide +kernel
theorem d_peI_7 : decode prog_59_method_7_code 7 = .ok (.aload_n 1, 1) := by decide +kernel
theorem d_peI_8 : decode prog_59_method_7_code 8 = .ok (.checkcast 18, 3) := by decide +kernel
theorem d_peI_11 : decode prog_59_method_7_code 11 = .ok (.astore_n 2, 1) := by decide +kernel
theorem d_peI_12 : decode prog_59_method_7_code 12 = .ok (.aload_n 0, 1) := by decide +kernel
theorem d_peI_13 : decode prog_59_method_7_code 13 = .ok (.getfield 17, 3) := by decide +kernel
theorem d_peI_16 : decode prog_59_method_7_code 16 = .ok (.aload_n 2, 1) := by decide +kernel
theorem d_peI_17 : decode prog_59_method_7_code 17 = .ok (.getfield 17, 3) := by decide +kernel
theorem d_peI_20 : decode prog_59_method_7_code 20 = .ok (.invokevirtual 63, 3) := by decide +kernel
theorem d_peI_23 : decode prog_59_method_7_code 23 = .ok (.ifCond .eq 21, 3) := by decide +kernel
theorem d_peI_26 : decode prog_59_method_7_code 26 = .ok (.aload_n 0, 1) := by decide +kernel
theorem d_peI_27 : decode prog_59_method_7_code 27 = .ok (.getfield 24, 3) := by decide +kernel
theorem d_peI_30 : decode prog_59_method_7_code 30 = .ok (.aload_n 2, 1) := by decide +kernel
theorem d_peI_31 : decode prog_59_method_7_code 31 = .ok (.getfield 24, 3) := by decide +kernel
theorem d_peI_34 : decode prog_59_method_7_code 34 = .ok (.invokevirtual 63, 3) := by decide +kernel
theorem d_peI_37 : decode prog_59_method_7_code 37 = .ok (.ifCond .eq 7, 3) := by decide +kernel
theorem d_peI_40 : decode prog_59_method_7_code 40 = .ok (.iconst 1, 1) := by decide +kernel
theorem d_peI_41 : decode prog_59_method_7_code 41 = .ok (.goto 4, 3) := by decide +kernel
theorem d_peI_45 : decode prog_59_method_7_code 45 = .ok (.ireturn, 1) := by decide +kernel
theorem pd7 : parseMethodDescriptor "(Ljava/lang/Object;)Z" = some ⟨[(.object "java/lang/Object")], some .boolean⟩ := by decide +kernel
theorem ef_peI (m : MethodId) (a0 : Addr) : entryFrame m #[(.ref a0), (.ref a0)] 3 = mkF m 0 #[.val (.ref a0), .val (.ref a0), .unset] [] := by first | (simp [entryFrame, mkF, argsToLocals, Value.category]; done) | rfl
def Q_peI (Z : State) (a0 : Addr) (u1 : Addr) (u2 : Addr) (h0 : Heap) (n0 : Nat) (v : Option Value) (h : Heap) (L : List Loc) : Prop := v = some (.int (1 : Int32)) ∧ Fr n0 L ∧ h = h0
set_option maxRecDepth 65536 in
set_option maxHeartbeats 40000000 in
theorem rm_peI (l : Launch) (Z : State) (aT : Array Value) (hw : ∀ d ∈ tables_1, d.before aT Z = true) (ws : List Jvm.Cond) (a0 : Addr) (u1 : Addr) (u2 : Addr) (h0 : Heap) (n0 : Nat) (Z0 : n0 ≤ h0.size) (hp0 : Exa Z h0 a0 "com/example/forcon/forcon/model/Permission") (hp1 : Fld Z h0 a0 "com/example/forcon/forcon/model/Permission" "operation" "Ljava/lang/String;" (.ref u1)) (hp2 : Fld Z h0 a0 "com/example/forcon/forcon/model/Permission" "object" "Ljava/lang/String;" (.ref u2)) (hp3 : Exa Z h0 u1 "java/lang/String") (hp4 : Exa Z h0 u2 "java/lang/String") :
    MetFree l (⟨"com/example/forcon/forcon/model/Permission", "equals", "(Ljava/lang/Object;)Z"⟩ : MethodName) (head1 (Jvm.Cond.code (⟨"com/example/forcon/forcon/model/Permission", "equals", "(Ljava/lang/Object;)Z"⟩ : MethodName) prog_59_method_7_code 3 (some .boolean) :: ws) ({ frames := 1, cells := 0, slots := 0, locals := 14 } : Room)) (fun a U => a = #[(.ref a0), (.ref a0)] ∧ Z.Warmed39 U.vm ∧ U.heap = h0) (fun _ _ _ _ _ => True) (fun _ U o U' => ∃ v L, o = .returned v ∧ Q_peI Z a0 u1 u2 h0 n0 v U'.heap L ∧ FrameEnd U o U' L ({ frames := 1, cells := 0, slots := 0, locals := 14 } : Room).cells ({ frames := 1, cells := 0, slots := 0, locals := 14 } : Room).slots) := by
  refine MetFree.of_bodySF (plainFor_of_name pn4) hisR ?_
  intro p e s m args below meth c s₁ Bd hml0 hP hK
  obtain ⟨rfl, hZ, hh⟩ := hP
  have hx := Bd.exec
  have hby := Bd.bytes
  have hml : c.maxLocals = 3 := hml0
  have hown : s.vm.findClass "com/example/forcon/forcon/model/Permission" = some m.cls := findClass_of_methodNamed Bd.named
  have hnm := (name_of_methodNamed Bd.named Bd.method).1
  have hlk := Bd.notSynchronized
  have hrt := Bd.returns
  have X0 : Stand p l e ({ frames := 1, cells := 0, slots := 0, locals := 14 } : Room) s m #[(.ref a0), (.ref a0)] below meth c s₁ [] 0 0 := Stand.of_body Bd
  have e0 : s₁.heap = h0 := by rw [← hh, Bd.state]; rfl
  have N0 := Fr.nil n0
  refine own_cast (P := own_End s (Q_peI Z a0 u1 u2 h0 n0) ({ frames := 1, cells := 0, slots := 0, locals := 14 } : Room).cells ({ frames := 1, cells := 0, slots := 0, locals := 14 } : Room).slots) (ef_peI m a0) ?_
  refine g_aloadN X0 hx hby d_peI_0 rfl rfl (rfl : 0 + 1 = 1) ?_
  obtain ⟨T310, X310, e310, st310⟩ := instY X0 hx hZ hown (hw _ (List.mem_of_getElem? (i := 52) rfl)) e0 (Ins.self hp0) (g := (mkF m 1 #[.val (.ref a0), .val (.ref a0), .unset] [(.ref a0)])) rfl rfl (hb hby d_peI_1)
  refine own_go st310 ?_
  show own_Got p e below _ T310 (mkF m 4 #[.val (.ref a0), .val (.ref a0), .unset] [(.int (1 : Int32))])
  refine g_ifF X310 hx hby d_peI_4 ((if0 _ _).trans (feq (by decide : ¬ ((1 : Int32) = (0 : Int32)))).1) (rfl : 4 + 3 = 7) ?_
  refine g_aloadN X310 hx hby d_peI_7 rfl rfl (rfl : 7 + 1 = 8) ?_
  obtain ⟨T311, X311, e311, st311⟩ := castY X310 hx hZ hown (hw _ (List.mem_of_getElem? (i := 52) rfl)) e310 (Ins.self hp0) (g := (mkF m 8 #[.val (.ref a0), .val (.ref a0), .unset] [(.ref a0)])) rfl rfl (hb hby d_peI_8)
  refine own_go st311 ?_
  show own_Got p e below _ T311 (mkF m 11 #[.val (.ref a0), .val (.ref a0), .unset] [(.ref a0)])
  refine g_astoreN X311 hx hby #[.val (.ref a0), .val (.ref a0), .val (.ref a0)] d_peI_11 rfl rfl (rfl : 11 + 1 = 12) ?_
  refine g_aloadN X311 hx hby d_peI_12 rfl rfl (rfl : 12 + 1 = 13) ?_
  obtain ⟨T312, X312, e312, st312⟩ := getF X311 hx hZ hown (host := "") (Or.inl (hw _ (List.mem_of_getElem? (i := 39) rfl))) Via.refl e311 hp1 (g := (mkF m 13 #[.val (.ref a0), .val (.ref a0), .val (.ref a0)] [(.ref a0)])) rfl rfl (hb hby d_peI_13)
  refine own_go st312 ?_
  show own_Got p e below _ T312 (mkF m 16 #[.val (.ref a0), .val (.ref a0), .val (.ref a0)] [(.ref u1)])
  refine g_aloadN X312 hx hby d_peI_16 rfl rfl (rfl : 16 + 1 = 17) ?_
  obtain ⟨T313, X313, e313, st313⟩ := getF X312 hx hZ hown (host := "") (Or.inl (hw _ (List.mem_of_getElem? (i := 39) rfl))) Via.refl e312 hp1 (g := (mkF m 17 #[.val (.ref a0), .val (.ref a0), .val (.ref a0)] [(.ref a0), (.ref u1)])) rfl rfl (hb hby d_peI_17)
  refine own_go st313 ?_
  show own_Got p e below _ T313 (mkF m 20 #[.val (.ref a0), .val (.ref a0), .val (.ref a0)] [(.ref u1), (.ref u1)])
  obtain ⟨cq314, kq314, q314a, q314b, q314c⟩ := isOf hZ e313 hp3
  obtain ⟨_, _, ⟨T314, L314, k314, n314⟩, -, X314, ⟨Lc314, hQ314, l314, y314, z314⟩, st314⟩ := X313.virtualBack hx (y := (⟨"java/lang/String", "equals", "(Ljava/lang/Object;)Z"⟩ : MethodName)) (z := (⟨"java/lang/String", "equals", "(Ljava/lang/Object;)Z"⟩ : MethodName)) hown (mvT hZ (hw _ (List.mem_of_getElem? (i := 54) rfl))) (mvT hZ (hw _ (List.mem_of_getElem? (i := 55) rfl))) (notFace_of_selects (args := #[]) (mvT hZ (hw _ (List.mem_of_getElem? (i := 57) rfl)))) (mvT hZ (hw _ (List.mem_of_getElem? (i := 57) rfl))) (mvT hZ (hw _ (List.mem_of_getElem? (i := 56) rfl))) (by decide) (backOf (W := 0) (rm_eqs l Z aT hw [] u1 h0 n0 Z0) hZ (hw _ (List.mem_of_getElem? (i := 58) rfl)) (hw _ (List.mem_of_getElem? (i := 9) rfl)) (by decide) (by decide)) q314a q314c (g := (mkF m 20 #[.val (.ref a0), .val (.ref a0), .val (.ref a0)] [(.ref u1), (.ref u1)])) rfl (by rw [hml]; rfl) (Steps.refl _) (argsL := [(.ref u1)]) (rest := []) (lenOf pd7 rfl) rfl (by show 2 * 0 + _ ≤ _; exact Nat.le_of_eq rfl) (hb hby d_peI_20) (fun _ _ => ⟨rfl, e313, (by decide : 0 + 0 ≤ _), (by decide : 0 + 0 ≤ _)⟩)
  dsimp only [Pt.U, Pt.locs, Pt.cells, Pt.slots] at X314 l314 y314 z314 st314 hQ314
  subst l314 y314 z314
  obtain ⟨rfl, N314q, eq314⟩ := hQ314
  have N314 := Fr.app N0 N314q
  refine own_tr st314 ?_
  show own_Got p e below _ T314 (mkF m 23 #[.val (.ref a0), .val (.ref a0), .val (.ref a0)] [(.int (1 : Int32))])
  refine g_ifF X314 hx hby d_peI_23 ((if0 _ _).trans (feq (by decide : ¬ ((1 : Int32) = (0 : Int32)))).1) (rfl : 23 + 3 = 26) ?_
  refine g_aloadN X314 hx hby d_peI_26 rfl rfl (rfl : 26 + 1 = 27) ?_
  obtain ⟨T315, X315, e315, st315⟩ := getF X314 hx hZ hown (host := "") (Or.inl (hw _ (List.mem_of_getElem? (i := 42) rfl))) Via.refl eq314 hp2 (g := (mkF m 27 #[.val (.ref a0), .val (.ref a0), .val (.ref a0)] [(.ref a0)])) rfl rfl (hb hby d_peI_27)
  refine own_go st315 ?_
  show own_Got p e below _ T315 (mkF m 30 #[.val (.ref a0), .val (.ref a0), .val (.ref a0)] [(.ref u2)])
  refine g_aloadN X315 hx hby d_peI_30 rfl rfl (rfl : 30 + 1 = 31) ?_
  obtain ⟨T316, X316, e316, st316⟩ := getF X315 hx hZ hown (host := "") (Or.inl (hw _ (List.mem_of_getElem? (i := 42) rfl))) Via.refl e315 hp2 (g := (mkF m 31 #[.val (.ref a0), .val (.ref a0), .val (.ref a0)] [(.ref a0), (.ref u2)])) rfl rfl (hb hby d_peI_31)
  refine own_go st316 ?_
  show own_Got p e below _ T316 (mkF m 34 #[.val (.ref a0), .val (.ref a0), .val (.ref a0)] [(.ref u2), (.ref u2)])
  obtain ⟨cq317, kq317, q317a, q317b, q317c⟩ := isOf hZ e316 hp4
  obtain ⟨_, _, ⟨T317, L317, k317, n317⟩, -, X317, ⟨Lc317, hQ317, l317, y317, z317⟩, st317⟩ := X316.virtualBack hx (y := (⟨"java/lang/String", "equals", "(Ljava/lang/Object;)Z"⟩ : MethodName)) (z := (⟨"java/lang/String", "equals", "(Ljava/lang/Object;)Z"⟩ : MethodName)) hown (mvT hZ (hw _ (List.mem_of_getElem? (i := 54) rfl))) (mvT hZ (hw _ (List.mem_of_getElem? (i := 55) rfl))) (notFace_of_selects (args := #[]) (mvT hZ (hw _ (List.mem_of_getElem? (i := 57) rfl)))) (mvT hZ (hw _ (List.mem_of_getElem? (i := 57) rfl))) (mvT hZ (hw _ (List.mem_of_getElem? (i := 56) rfl))) (by decide) (backOf (W := 0) (rm_eqs l Z aT hw [] u2 h0 n0 Z0) hZ (hw _ (List.mem_of_getElem? (i := 58) rfl)) (hw _ (List.mem_of_getElem? (i := 9) rfl)) (by decide) (by decide)) q317a q317c (g := (mkF m 34 #[.val (.ref a0), .val (.ref a0), .val (.ref a0)] [(.ref u2), (.ref u2)])) rfl (by rw [hml]; rfl) (Steps.refl _) (argsL := [(.ref u2)]) (rest := []) (lenOf pd7 rfl) rfl (by show 2 * 0 + _ ≤ _; exact Nat.le_of_eq rfl) (hb hby d_peI_34) (fun _ _ => ⟨rfl, e316, (by decide : 0 + 0 ≤ _), (by decide : 0 + 0 ≤ _)⟩)
  dsimp only [Pt.U, Pt.locs, Pt.cells, Pt.slots] at X317 l317 y317 z317 st317 hQ317
  subst l317 y317 z317
  obtain ⟨rfl, N317q, eq317⟩ := hQ317
  have N317 := Fr.app N314 N317q
  refine own_tr st317 ?_
  show own_Got p e below _ T317 (mkF m 37 #[.val (.ref a0), .val (.ref a0), .val (.ref a0)] [(.int (1 : Int32))])
  refine g_ifF X317 hx hby d_peI_37 ((if0 _ _).trans (feq (by decide : ¬ ((1 : Int32) = (0 : Int32)))).1) (rfl : 37 + 3 = 40) ?_
  refine g_iconst X317 hx hby (1 : Int32) d_peI_40 (by decide) (rfl : 40 + 1 = 41) ?_
  refine g_goto X317 hx hby d_peI_41 (by decide) (pc' := 45) (by decide) ?_
  refine own_retN X317 hx hby hlk (t := .boolean) hrt (by simp) d_peI_45 (by decide) (by decide) ?_
  show Q_peI Z a0 u1 u2 h0 n0 _ T317.heap _
  exact ⟨rfl, N317, eq317⟩
theorem d_peq_0 : decode prog_59_method_7_code 0 = .ok (.aload_n 1, 1) := by decide +kernel
theorem d_peq_1 : decode prog_59_method_7_code 1 = .ok (.instanceof 18, 3) := by decide +kernel
theorem d_peq_4 : decode prog_59_method_7_code 4 = .ok (.ifCond .eq 40, 3) := by decide +kernel
theorem d_peq_7 : decode prog_59_method_7_code 7 = .ok (.aload_n 1, 1) := by decide +kernel
theorem d_peq_8 : decode prog_59_method_7_code 8 = .ok (.checkcast 18, 3) := by decide +kernel
theorem d_peq_11 : decode prog_59_method_7_code 11 = .ok (.astore_n 2, 1) := by decide +kernel
theorem d_peq_12 : decode prog_59_method_7_code 12 = .ok (.aload_n 0, 1) := by decide +kernel
theorem d_peq_13 : decode prog_59_method_7_code 13 = .ok (.getfield 17, 3) := by decide +kernel
theorem d_peq_16 : decode prog_59_method_7_code 16 = .ok (.aload_n 2, 1) := by decide +kernel
theorem d_peq_17 : decode prog_59_method_7_code 17 = .ok (.getfield 17, 3) := by decide +kernel
theorem d_peq_20 : decode prog_59_method_7_code 20 = .ok (.invokevirtual 63, 3) := by decide +kernel
theorem d_peq_23 : decode prog_59_method_7_code 23 = .ok (.ifCond .eq 21, 3) := by decide +kernel
theorem d_peq_26 : decode prog_59_method_7_code 26 = .ok (.aload_n 0, 1) := by decide +kernel
theorem d_peq_27 : decode prog_59_method_7_code 27 = .ok (.getfield 24, 3) := by decide +kernel
theorem d_peq_30 : decode prog_59_method_7_code 30 = .ok (.aload_n 2, 1) := by decide +kernel
theorem d_peq_31 : decode prog_59_method_7_code 31 = .ok (.getfield 24, 3) := by decide +kernel
theorem d_peq_34 : decode prog_59_method_7_code 34 = .ok (.invokevirtual 63, 3) := by decide +kernel
theorem d_peq_37 : decode prog_59_method_7_code 37 = .ok (.ifCond .eq 7, 3) := by decide +kernel
theorem d_peq_40 : decode prog_59_method_7_code 40 = .ok (.iconst 1, 1) := by decide +kernel
theorem d_peq_41 : decode prog_59_method_7_code 41 = .ok (.goto 4, 3) := by decide +kernel
theorem d_peq_44 : decode prog_59_method_7_code 44 = .ok (.iconst 0, 1) := by decide +kernel
theorem d_peq_45 : decode prog_59_method_7_code 45 = .ok (.ireturn, 1) := by decide +kernel
theorem ef_peq (m : MethodId) (a0 : Addr) (a1 : Addr) : entryFrame m #[(.ref a0), (.ref a1)] 3 = mkF m 0 #[.val (.ref a0), .val (.ref a1), .unset] [] := by first | (simp [entryFrame, mkF, argsToLocals, Value.category]; done) | rfl
def F_peq (x1 : Int32) (x2 : Int32) (y1 : Int32) (y2 : Int32) : Int32 := if (F_seq x1 y1) = (0 : Int32) then ((0 : Int32)) else (if (F_seq x2 y2) = (0 : Int32) then ((0 : Int32)) else ((1 : Int32)))
def Q_peq (Z : State) (a0 : Addr) (a1 : Addr) (x1 : Int32) (x2 : Int32) (y1 : Int32) (y2 : Int32) (u1 : Addr) (u2 : Addr) (w1 : Addr) (w2 : Addr) (ob1 : Addr) (kb1 : ClassId) (n1 : Int32) (vs1 : List Value) (ob2 : Addr) (kb2 : ClassId) (n2 : Int32) (vs2 : List Value) (ob3 : Addr) (kb3 : ClassId) (n3 : Int32) (vs3 : List Value) (ob4 : Addr) (kb4 : ClassId) (n4 : Int32) (vs4 : List Value) (g1 : Int32) (h0 : Heap) (n0 : Nat) (v : Option Value) (h : Heap) (L : List Loc) : Prop := v = some (.int (F_peq x1 x2 y1 y2)) ∧ Fr n0 L ∧ h = h0
set_option maxRecDepth 65536 in
set_option maxHeartbeats 40000000 in
theorem rm_peq (l : Launch) (Z : State) (aT : Array Value) (hw : ∀ d ∈ tables_1, d.before aT Z = true) (ws : List Jvm.Cond) (a0 : Addr) (a1 : Addr) (x1 : Int32) (x2 : Int32) (y1 : Int32) (y2 : Int32) (u1 : Addr) (u2 : Addr) (w1 : Addr) (w2 : Addr) (ob1 : Addr) (kb1 : ClassId) (n1 : Int32) (vs1 : List Value) (ob2 : Addr) (kb2 : ClassId) (n2 : Int32) (vs2 : List Value) (ob3 : Addr) (kb3 : ClassId) (n3 : Int32) (vs3 : List Value) (ob4 : Addr) (kb4 : ClassId) (n4 : Int32) (vs4 : List Value) (g1 : Int32) (h0 : Heap) (n0 : Nat) (Z0 : n0 ≤ h0.size) (hp0 : Exa Z h0 a1 "com/example/forcon/forcon/model/Permission") (hp1 : Fld Z h0 a0 "com/example/forcon/forcon/model/Permission" "operation" "Ljava/lang/String;" (.ref u1)) (hp2 : Fld Z h0 a0 "com/example/forcon/forcon/model/Permission" "object" "Ljava/lang/String;" (.ref u2)) (hp3 : Fld Z h0 a1 "com/example/forcon/forcon/model/Permission" "operation" "Ljava/lang/String;" (.ref w1)) (hp4 : Fld Z h0 a1 "com/example/forcon/forcon/model/Permission" "object" "Ljava/lang/String;" (.ref w2)) (hp5 : Exa Z h0 u1 "java/lang/String") (hp6 : Fld Z h0 u1 "java/lang/String" "coder" "B" (.int (0 : Int32))) (hp7 : Fld Z h0 u1 "java/lang/String" "value" "[B" (.ref ob1)) (hp8 : Arv Z h0 ob1 kb1 .byte n1 vs1 (.int (0 : Int32))) (hp9 : Exa Z h0 u2 "java/lang/String") (hp10 : Fld Z h0 u2 "java/lang/String" "coder" "B" (.int (0 : Int32))) (hp11 : Fld Z h0 u2 "java/lang/String" "value" "[B" (.ref ob2)) (hp12 : Arv Z h0 ob2 kb2 .byte n2 vs2 (.int (0 : Int32))) (hp13 : Exa Z h0 w1 "java/lang/String") (hp14 : Fld Z h0 w1 "java/lang/String" "coder" "B" (.int (0 : Int32))) (hp15 : Fld Z h0 w1 "java/lang/String" "value" "[B" (.ref ob3)) (hp16 : Arv Z h0 ob3 kb3 .byte n3 vs3 (.int (0 : Int32))) (hp17 : Exa Z h0 w2 "java/lang/String") (hp18 : Fld Z h0 w2 "java/lang/String" "coder" "B" (.int (0 : Int32))) (hp19 : Fld Z h0 w2 "java/lang/String" "value" "[B" (.ref ob4)) (hp20 : Arv Z h0 ob4 kb4 .byte n4 vs4 (.int (0 : Int32))) (hp21 : u1 ≠ w1) (hp22 : u2 ≠ w2) (hp23 : Sta Z h0 "java/lang/String" "COMPACT_STRINGS" "Z" (.int g1)) (hg1 : ¬ (g1 = (0 : Int32))) (hst1 : own_st x1 n1 vs1) (hst2 : own_st x2 n2 vs2) (hst3 : own_st y1 n3 vs3) (hst4 : own_st y2 n4 vs4) :
    MetFree l (⟨"com/example/forcon/forcon/model/Permission", "equals", "(Ljava/lang/Object;)Z"⟩ : MethodName) (head1 (Jvm.Cond.code (⟨"com/example/forcon/forcon/model/Permission", "equals", "(Ljava/lang/Object;)Z"⟩ : MethodName) prog_59_method_7_code 3 (some .boolean) :: ws) ({ frames := 2, cells := 0, slots := 0, locals := 28 } : Room)) (fun a U => a = #[(.ref a0), (.ref a1)] ∧ Z.Warmed39 U.vm ∧ U.heap = h0) (fun _ _ _ _ _ => True) (fun _ U o U' => ∃ v L, o = .returned v ∧ Q_peq Z a0 a1 x1 x2 y1 y2 u1 u2 w1 w2 ob1 kb1 n1 vs1 ob2 kb2 n2 vs2 ob3 kb3 n3 vs3 ob4 kb4 n4 vs4 g1 h0 n0 v U'.heap L ∧ FrameEnd U o U' L ({ frames := 2, cells := 0, slots := 0, locals := 28 } : Room).cells ({ frames := 2, cells := 0, slots := 0, locals := 28 } : Room).slots) := by
  refine MetFree.of_bodySF (plainFor_of_name pn4) hisR ?_
  intro p e s m args below meth c s₁ Bd hml0 hP hK
  obtain ⟨rfl, hZ, hh⟩ := hP
  have hx := Bd.exec
  have hby := Bd.bytes
  have hml : c.maxLocals = 3 := hml0
  have hown : s.vm.findClass "com/example/forcon/forcon/model/Permission" = some m.cls := findClass_of_methodNamed Bd.named
  have hnm := (name_of_methodNamed Bd.named Bd.method).1
  have hlk := Bd.notSynchronized
  have hrt := Bd.returns
  have X0 : Stand p l e ({ frames := 2, cells := 0, slots := 0, locals := 28 } : Room) s m #[(.ref a0), (.ref a1)] below meth c s₁ [] 0 0 := Stand.of_body Bd
  have e0 : s₁.heap = h0 := by rw [← hh, Bd.state]; rfl
  have N0 := Fr.nil n0
  refine own_cast (P := own_End s (Q_peq Z a0 a1 x1 x2 y1 y2 u1 u2 w1 w2 ob1 kb1 n1 vs1 ob2 kb2 n2 vs2 ob3 kb3 n3 vs3 ob4 kb4 n4 vs4 g1 h0 n0) ({ frames := 2, cells := 0, slots := 0, locals := 28 } : Room).cells ({ frames := 2, cells := 0, slots := 0, locals := 28 } : Room).slots) (ef_peq m a0 a1) ?_
  refine g_aloadN X0 hx hby d_peq_0 rfl rfl (rfl : 0 + 1 = 1) ?_
  obtain ⟨T318, X318, e318, st318⟩ := instY X0 hx hZ hown (hw _ (List.mem_of_getElem? (i := 52) rfl)) e0 (Ins.self hp0) (g := (mkF m 1 #[.val (.ref a0), .val (.ref a1), .unset] [(.ref a1)])) rfl rfl (hb hby d_peq_1)
  refine own_go st318 ?_
  show own_Got p e below _ T318 (mkF m 4 #[.val (.ref a0), .val (.ref a1), .unset] [(.int (1 : Int32))])
  refine g_ifF X318 hx hby d_peq_4 ((if0 _ _).trans (feq (by decide : ¬ ((1 : Int32) = (0 : Int32)))).1) (rfl : 4 + 3 = 7) ?_
  refine g_aloadN X318 hx hby d_peq_7 rfl rfl (rfl : 7 + 1 = 8) ?_
  obtain ⟨T319, X319, e319, st319⟩ := castY X318 hx hZ hown (hw _ (List.mem_of_getElem? (i := 52) rfl)) e318 (Ins.self hp0) (g := (mkF m 8 #[.val (.ref a0), .val (.ref a1), .unset] [(.ref a1)])) rfl rfl (hb hby d_peq_8)
  refine own_go st319 ?_
  show own_Got p e below _ T319 (mkF m 11 #[.val (.ref a0), .val (.ref a1), .unset] [(.ref a1)])
  refine g_astoreN X319 hx hby #[.val (.ref a0), .val (.ref a1), .val (.ref a1)] d_peq_11 rfl rfl (rfl : 11 + 1 = 12) ?_
  refine g_aloadN X319 hx hby d_peq_12 rfl rfl (rfl : 12 + 1 = 13) ?_
  obtain ⟨T320, X320, e320, st320⟩ := getF X319 hx hZ hown (host := "") (Or.inl (hw _ (List.mem_of_getElem? (i := 39) rfl))) Via.refl e319 hp1 (g := (mkF m 13 #[.val (.ref a0), .val (.ref a1), .val (.ref a1)] [(.ref a0)])) rfl rfl (hb hby d_peq_13)
  refine own_go st320 ?_
  show own_Got p e below _ T320 (mkF m 16 #[.val (.ref a0), .val (.ref a1), .val (.ref a1)] [(.ref u1)])
  refine g_aloadN X320 hx hby d_peq_16 rfl rfl (rfl : 16 + 1 = 17) ?_
  obtain ⟨T321, X321, e321, st321⟩ := getF X320 hx hZ hown (host := "") (Or.inl (hw _ (List.mem_of_getElem? (i := 39) rfl))) Via.refl e320 hp3 (g := (mkF m 17 #[.val (.ref a0), .val (.ref a1), .val (.ref a1)] [(.ref a1), (.ref u1)])) rfl rfl (hb hby d_peq_17)
  refine own_go st321 ?_
  show own_Got p e below _ T321 (mkF m 20 #[.val (.ref a0), .val (.ref a1), .val (.ref a1)] [(.ref w1), (.ref u1)])
  obtain ⟨cq322, kq322, q322a, q322b, q322c⟩ := isOf hZ e321 hp5
  obtain ⟨_, _, ⟨T322, L322, k322, n322⟩, -, X322, ⟨Lc322, hQ322, l322, y322, z322⟩, st322⟩ := X321.virtualBack hx (y := (⟨"java/lang/String", "equals", "(Ljava/lang/Object;)Z"⟩ : MethodName)) (z := (⟨"java/lang/String", "equals", "(Ljava/lang/Object;)Z"⟩ : MethodName)) hown (mvT hZ (hw _ (List.mem_of_getElem? (i := 54) rfl))) (mvT hZ (hw _ (List.mem_of_getElem? (i := 55) rfl))) (notFace_of_selects (args := #[]) (mvT hZ (hw _ (List.mem_of_getElem? (i := 57) rfl)))) (mvT hZ (hw _ (List.mem_of_getElem? (i := 57) rfl))) (mvT hZ (hw _ (List.mem_of_getElem? (i := 56) rfl))) (by decide) (backOf (W := 0) (rm_seq l Z aT hw [] u1 w1 x1 y1 ob1 kb1 n1 vs1 ob3 kb3 n3 vs3 g1 h0 n0 Z0 hp21 hp5 hp6 hp7 hp8 hp13 hp14 hp15 hp16 hp23 hg1 hst1 hst3) hZ (hw _ (List.mem_of_getElem? (i := 58) rfl)) (hw _ (List.mem_of_getElem? (i := 9) rfl)) (by decide) (by decide)) q322a q322c (g := (mkF m 20 #[.val (.ref a0), .val (.ref a1), .val (.ref a1)] [(.ref w1), (.ref u1)])) rfl (by rw [hml]; rfl) (Steps.refl _) (argsL := [(.ref w1)]) (rest := []) (lenOf pd7 rfl) rfl (by show 2 * 0 + _ ≤ _; exact Nat.le_of_eq rfl) (hb hby d_peq_20) (fun _ _ => ⟨rfl, e321, (by decide : 0 + 0 ≤ _), (by decide : 0 + 0 ≤ _)⟩)
  dsimp only [Pt.U, Pt.locs, Pt.cells, Pt.slots] at X322 l322 y322 z322 st322 hQ322
  subst l322 y322 z322
  obtain ⟨rfl, N322q, eq322⟩ := hQ322
  have N322 := Fr.app N0 N322q
  refine own_tr st322 ?_
  show own_Got p e below _ T322 (mkF m 23 #[.val (.ref a0), .val (.ref a1), .val (.ref a1)] [(.int (F_seq x1 y1))])
  by_cases c323 : (F_seq x1 y1) = (0 : Int32)
  · refine g_ifT X322 hx hby d_peq_23 ((if0 _ _).trans (teq c323).1) (by decide) (pc' := 44) (by decide) ?_
    refine g_iconst X322 hx hby (0 : Int32) d_peq_44 (by decide) (rfl : 44 + 1 = 45) ?_
    refine own_retN X322 hx hby hlk (t := .boolean) hrt (by simp) d_peq_45 (by decide) (by decide) ?_
    show Q_peq Z a0 a1 x1 x2 y1 y2 u1 u2 w1 w2 ob1 kb1 n1 vs1 ob2 kb2 n2 vs2 ob3 kb3 n3 vs3 ob4 kb4 n4 vs4 g1 h0 n0 _ T322.heap _
    exact ⟨(congrArg (fun z => some (Value.int z)) (by rw [F_peq, if_pos c323] <;> rfl)), N322, eq322⟩
  · refine g_ifF X322 hx hby d_peq_23 ((if0 _ _).trans (feq c323).1) (rfl : 23 + 3 = 26) ?_
    refine g_aloadN X322 hx hby d_peq_26 rfl rfl (rfl : 26 + 1 = 27) ?_
    obtain ⟨T324, X324, e324, st324⟩ := getF X322 hx hZ hown (host := "") (Or.inl (hw _ (List.mem_of_getElem? (i := 42) rfl))) Via.refl eq322 hp2 (g := (mkF m 27 #[.val (.ref a0), .val (.ref a1), .val (.ref a1)] [(.ref a0)])) rfl rfl (hb hby d_peq_27)
    refine own_go st324 ?_
    show own_Got p e below _ T324 (mkF m 30 #[.val (.ref a0), .val (.ref a1), .val (.ref a1)] [(.ref u2)])
    refine g_aloadN X324 hx hby d_peq_30 rfl rfl (rfl : 30 + 1 = 31) ?_
    obtain ⟨T325, X325, e325, st325⟩ := getF X324 hx hZ hown (host := "") (Or.inl (hw _ (List.mem_of_getElem? (i := 42) rfl))) Via.refl e324 hp4 (g := (mkF m 31 #[.val (.ref a0), .val (.ref a1), .val (.ref a1)] [(.ref a1), (.ref u2)])) rfl rfl (hb hby d_peq_31)
    refine own_go st325 ?_
    show own_Got p e below _ T325 (mkF m 34 #[.val (.ref a0), .val (.ref a1), .val (.ref a1)] [(.ref w2), (.ref u2)])
    obtain ⟨cq326, kq326, q326a, q326b, q326c⟩ := isOf hZ e325 hp9
    obtain ⟨_, _, ⟨T326, L326, k326, n326⟩, -, X326, ⟨Lc326, hQ326, l326, y326, z326⟩, st326⟩ := X325.virtualBack hx (y := (⟨"java/lang/String", "equals", "(Ljava/lang/Object;)Z"⟩ : MethodName)) (z := (⟨"java/lang/String", "equals", "(Ljava/lang/Object;)Z"⟩ : MethodName)) hown (mvT hZ (hw _ (List.mem_of_getElem? (i := 54) rfl))) (mvT hZ (hw _ (List.mem_of_getElem? (i := 55) rfl))) (notFace_of_selects (args := #[]) (mvT hZ (hw _ (List.mem_of_getElem? (i := 57) rfl)))) (mvT hZ (hw _ (List.mem_of_getElem? (i := 57) rfl))) (mvT hZ (hw _ (List.mem_of_getElem? (i := 56) rfl))) (by decide) (backOf (W := 0) (rm_seq l Z aT hw [] u2 w2 x2 y2 ob2 kb2 n2 vs2 ob4 kb4 n4 vs4 g1 h0 n0 Z0 hp22 hp9 hp10 hp11 hp12 hp17 hp18 hp19 hp20 hp23 hg1 hst2 hst4) hZ (hw _ (List.mem_of_getElem? (i := 58) rfl)) (hw _ (List.mem_of_getElem? (i := 9) rfl)) (by decide) (by decide)) q326a q326c (g := (mkF m 34 #[.val (.ref a0), .val (.ref a1), .val (.ref a1)] [(.ref w2), (.ref u2)])) rfl (by rw [hml]; rfl) (Steps.refl _) (argsL := [(.ref w2)]) (rest := []) (lenOf pd7 rfl) rfl (by show 2 * 0 + _ ≤ _; exact Nat.le_of_eq rfl) (hb hby d_peq_34) (fun _ _ => ⟨rfl, e325, (by decide : 0 + 0 ≤ _), (by decide : 0 + 0 ≤ _)⟩)
    dsimp only [Pt.U, Pt.locs, Pt.cells, Pt.slots] at X326 l326 y326 z326 st326 hQ326
    subst l326 y326 z326
    obtain ⟨rfl, N326q, eq326⟩ := hQ326
    have N326 := Fr.app N322 N326q
    refine own_tr st326 ?_
    show own_Got p e below _ T326 (mkF m 37 #[.val (.ref a0), .val (.ref a1), .val (.ref a1)] [(.int (F_seq x2 y2))])
    by_cases c327 : (F_seq x2 y2) = (0 : Int32)
    · refine g_ifT X326 hx hby d_peq_37 ((if0 _ _).trans (teq c327).1) (by decide) (pc' := 44) (by decide) ?_
      refine g_iconst X326 hx hby (0 : Int32) d_peq_44 (by decide) (rfl : 44 + 1 = 45) ?_
      refine own_retN X326 hx hby hlk (t := .boolean) hrt (by simp) d_peq_45 (by decide) (by decide) ?_
      show Q_peq Z a0 a1 x1 x2 y1 y2 u1 u2 w1 w2 ob1 kb1 n1 vs1 ob2 kb2 n2 vs2 ob3 kb3 n3 vs3 ob4 kb4 n4 vs4 g1 h0 n0 _ T326.heap _
      exact ⟨(congrArg (fun z => some (Value.int z)) (by rw [F_peq, if_neg c323, if_pos c327] <;> rfl)), N326, eq326⟩
    · refine g_ifF X326 hx hby d_peq_37 ((if0 _ _).trans (feq c327).1) (rfl : 37 + 3 = 40) ?_
      refine g_iconst X326 hx hby (1 : Int32) d_peq_40 (by decide) (rfl : 40 + 1 = 41) ?_
      refine g_goto X326 hx hby d_peq_41 (by decide) (pc' := 45) (by decide) ?_
      refine own_retN X326 hx hby hlk (t := .boolean) hrt (by simp) d_peq_45 (by decide) (by decide) ?_
      show Q_peq Z a0 a1 x1 x2 y1 y2 u1 u2 w1 w2 ob1 kb1 n1 vs1 ob2 kb2 n2 vs2 ob3 kb3 n3 vs3 ob4 kb4 n4 vs4 g1 h0 n0 _ T326.heap _
      exact ⟨(congrArg (fun z => some (Value.int z)) (by rw [F_peq, if_neg c323, if_neg c327] <;> rfl)), N326, eq326⟩
theorem d_cdr_0 : decode jdk_42_method_152_code 0 = .ok (.getstatic 38, 3) := by decide +kernel
theorem d_cdr_3 : decode jdk_42_method_152_code 3 = .ok (.ifCond .eq 10, 3) := by decide +kernel
theorem d_cdr_6 : decode jdk_42_method_152_code 6 = .ok (.aload_n 0, 1) := by decide +kernel
theorem d_cdr_7 : decode jdk_42_method_152_code 7 = .ok (.getfield 15, 3) := by decide +kernel
theorem d_cdr_10 : decode jdk_42_method_152_code 10 = .ok (.goto 4, 3) := by decide +kernel
theorem d_cdr_14 : decode jdk_42_method_152_code 14 = .ok (.ireturn, 1) := by decide +kernel
theorem ef_cdr (m : MethodId) (a0 : Addr) : entryFrame m #[(.ref a0)] 1 = mkF m 0 #[.val (.ref a0)] [] := by first | (simp [entryFrame, mkF, argsToLocals, Value.category]; done) | rfl
def Q_cdr (Z : State) (a0 : Addr) (g1 : Int32) (h0 : Heap) (n0 : Nat) (v : Option Value) (h : Heap) (L : List Loc) : Prop := v = some (.int (0 : Int32)) ∧ Fr n0 L ∧ h = h0
set_option maxRecDepth 65536 in
set_option maxHeartbeats 40000000 in
theorem rm_cdr (l : Launch) (Z : State) (aT : Array Value) (hw : ∀ d ∈ tables_1, d.before aT Z = true) (ws : List Jvm.Cond) (a0 : Addr) (g1 : Int32) (h0 : Heap) (n0 : Nat) (Z0 : n0 ≤ h0.size) (hp0 : Sta Z h0 "java/lang/String" "COMPACT_STRINGS" "Z" (.int g1)) (hp1 : Fld Z h0 a0 "java/lang/String" "coder" "B" (.int (0 : Int32))) (hg1 : ¬ (g1 = (0 : Int32))) :
    MetFree l (⟨"java/lang/String", "coder", "()B"⟩ : MethodName) (head1 (Jvm.Cond.code (⟨"java/lang/String", "coder", "()B"⟩ : MethodName) jdk_42_method_152_code 1 (some .byte) :: ws) ({ frames := 0, cells := 0, slots := 0, locals := 0 } : Room)) (fun a U => a = #[(.ref a0)] ∧ Z.Warmed39 U.vm ∧ U.heap = h0) (fun _ _ _ _ _ => True) (fun _ U o U' => ∃ v L, o = .returned v ∧ Q_cdr Z a0 g1 h0 n0 v U'.heap L ∧ FrameEnd U o U' L ({ frames := 0, cells := 0, slots := 0, locals := 0 } : Room).cells ({ frames := 0, cells := 0, slots := 0, locals := 0 } : Room).slots) := by
  refine MetFree.of_bodySF (plainFor_of_name pn1) hisR ?_
  intro p e s m args below meth c s₁ Bd hml0 hP hK
  obtain ⟨rfl, hZ, hh⟩ := hP
  have hx := Bd.exec
  have hby := Bd.bytes
  have hml : c.maxLocals = 1 := hml0
  have hown : s.vm.findClass "java/lang/String" = some m.cls := findClass_of_methodNamed Bd.named
  have hnm := (name_of_methodNamed Bd.named Bd.method).1
  have hlk := Bd.notSynchronized
  have hrt := Bd.returns
  have X0 : Stand p l e ({ frames := 0, cells := 0, slots := 0, locals := 0 } : Room) s m #[(.ref a0)] below meth c s₁ [] 0 0 := Stand.of_body Bd
  have e0 : s₁.heap = h0 := by rw [← hh, Bd.state]; rfl
  have N0 := Fr.nil n0
  refine own_cast (P := own_End s (Q_cdr Z a0 g1 h0 n0) ({ frames := 0, cells := 0, slots := 0, locals := 0 } : Room).cells ({ frames := 0, cells := 0, slots := 0, locals := 0 } : Room).slots) (ef_cdr m a0) ?_
  obtain ⟨T328, X328, e328, st328⟩ := getS2 X0 hx hZ hown (host := "") (Or.inl (hw _ (List.mem_of_getElem? (i := 60) rfl))) Via.refl e0 hp0 (g := (mkF m 0 #[.val (.ref a0)] [])) rfl (hb hby d_cdr_0)
  refine own_go st328 ?_
  show own_Got p e below _ T328 (mkF m 3 #[.val (.ref a0)] [(.int g1)])
  refine g_ifF X328 hx hby d_cdr_3 ((if0 _ _).trans (feq hg1).1) (rfl : 3 + 3 = 6) ?_
  refine g_aloadN X328 hx hby d_cdr_6 rfl rfl (rfl : 6 + 1 = 7) ?_
  obtain ⟨T329, X329, e329, st329⟩ := getF X328 hx hZ hown (host := "") (Or.inl (hw _ (List.mem_of_getElem? (i := 28) rfl))) Via.refl e328 hp1 (g := (mkF m 7 #[.val (.ref a0)] [(.ref a0)])) rfl rfl (hb hby d_cdr_7)
  refine own_go st329 ?_
  show own_Got p e below _ T329 (mkF m 10 #[.val (.ref a0)] [(.int (0 : Int32))])
  refine g_goto X329 hx hby d_cdr_10 (by decide) (pc' := 14) (by decide) ?_
  refine own_retN X329 hx hby hlk (t := .byte) hrt (by simp) d_cdr_14 (by decide) (by decide) ?_
  show Q_cdr Z a0 g1 h0 n0 _ T329.heap _
  exact ⟨rfl, N0, e329⟩
theorem d_len_0 : decode jdk_42_method_54_code 0 = .ok (.aload_n 0, 1) := by decide +kernel
theorem d_len_1 : decode jdk_42_method_54_code 1 = .ok (.getfield 9, 3) := by decide +kernel
theorem d_len_4 : decode jdk_42_method_54_code 4 = .ok (.arraylength, 1) := by decide +kernel
theorem d_len_5 : decode jdk_42_method_54_code 5 = .ok (.aload_n 0, 1) := by decide +kernel
theorem d_len_6 : decode jdk_42_method_54_code 6 = .ok (.invokevirtual 335, 3) := by decide +kernel
theorem d_len_9 : decode jdk_42_method_54_code 9 = .ok (.ishr, 1) := by decide +kernel
theorem d_len_10 : decode jdk_42_method_54_code 10 = .ok (.ireturn, 1) := by decide +kernel
theorem pd8 : parseMethodDescriptor "()B" = some ⟨[], some .byte⟩ := by decide +kernel
theorem ef_len (m : MethodId) (a0 : Addr) : entryFrame m #[(.ref a0)] 1 = mkF m 0 #[.val (.ref a0)] [] := by first | (simp [entryFrame, mkF, argsToLocals, Value.category]; done) | rfl
def Q_len (Z : State) (a0 : Addr) (ob : Addr) (kb : ClassId) (n : Int32) (vs : List Value) (g1 : Int32) (h0 : Heap) (n0 : Nat) (v : Option Value) (h : Heap) (L : List Loc) : Prop := v = some (.int n) ∧ Fr n0 L ∧ h = h0
set_option maxRecDepth 65536 in
set_option maxHeartbeats 40000000 in
theorem rm_len (l : Launch) (Z : State) (aT : Array Value) (hw : ∀ d ∈ tables_1, d.before aT Z = true) (ws : List Jvm.Cond) (a0 : Addr) (ob : Addr) (kb : ClassId) (n : Int32) (vs : List Value) (g1 : Int32) (h0 : Heap) (n0 : Nat) (Z0 : n0 ≤ h0.size) (hp0 : Exa Z h0 a0 "java/lang/String") (hp1 : Fld Z h0 a0 "java/lang/String" "coder" "B" (.int (0 : Int32))) (hp2 : Fld Z h0 a0 "java/lang/String" "value" "[B" (.ref ob)) (hp3 : Arv Z h0 ob kb .byte n vs (.int (0 : Int32))) (hp4 : Sta Z h0 "java/lang/String" "COMPACT_STRINGS" "Z" (.int g1)) (hg1 : ¬ (g1 = (0 : Int32))) :
    MetFree l (⟨"java/lang/String", "length", "()I"⟩ : MethodName) (head1 (Jvm.Cond.code (⟨"java/lang/String", "length", "()I"⟩ : MethodName) jdk_42_method_54_code 1 (some .int) :: ws) ({ frames := 1, cells := 0, slots := 0, locals := 13 } : Room)) (fun a U => a = #[(.ref a0)] ∧ Z.Warmed39 U.vm ∧ U.heap = h0) (fun _ _ _ _ _ => True) (fun _ U o U' => ∃ v L, o = .returned v ∧ Q_len Z a0 ob kb n vs g1 h0 n0 v U'.heap L ∧ FrameEnd U o U' L ({ frames := 1, cells := 0, slots := 0, locals := 13 } : Room).cells ({ frames := 1, cells := 0, slots := 0, locals := 13 } : Room).slots) := by
  refine MetFree.of_bodySF (plainFor_of_name pn1) hisR ?_
  intro p e s m args below meth c s₁ Bd hml0 hP hK
  obtain ⟨rfl, hZ, hh⟩ := hP
  have hx := Bd.exec
  have hby := Bd.bytes
  have hml : c.maxLocals = 1 := hml0
  have hown : s.vm.findClass "java/lang/String" = some m.cls := findClass_of_methodNamed Bd.named
  have hnm := (name_of_methodNamed Bd.named Bd.method).1
  have hlk := Bd.notSynchronized
  have hrt := Bd.returns
  have X0 : Stand p l e ({ frames := 1, cells := 0, slots := 0, locals := 13 } : Room) s m #[(.ref a0)] below meth c s₁ [] 0 0 := Stand.of_body Bd
  have e0 : s₁.heap = h0 := by rw [← hh, Bd.state]; rfl
  have N0 := Fr.nil n0
  refine own_cast (P := own_End s (Q_len Z a0 ob kb n vs g1 h0 n0) ({ frames := 1, cells := 0, slots := 0, locals := 13 } : Room).cells ({ frames := 1, cells := 0, slots := 0, locals := 13 } : Room).slots) (ef_len m a0) ?_
  refine g_aloadN X0 hx hby d_len_0 rfl rfl (rfl : 0 + 1 = 1) ?_
  obtain ⟨T330, X330, e330, st330⟩ := getF X0 hx hZ hown (host := "") (Or.inl (hw _ (List.mem_of_getElem? (i := 27) rfl))) Via.refl e0 hp2 (g := (mkF m 1 #[.val (.ref a0)] [(.ref a0)])) rfl rfl (hb hby d_len_1)
  refine own_go st330 ?_
  show own_Got p e below _ T330 (mkF m 4 #[.val (.ref a0)] [(.ref ob)])
  refine g_alen X330 hx hby hZ e330 hp3 d_len_4 (rfl : 4 + 1 = 5) ?_
  refine g_aloadN X330 hx hby d_len_5 rfl rfl (rfl : 5 + 1 = 6) ?_
  obtain ⟨cq331, kq331, q331a, q331b, q331c⟩ := isOf hZ e330 hp0
  obtain ⟨_, _, ⟨T331, L331, k331, n331⟩, -, X331, ⟨Lc331, hQ331, l331, y331, z331⟩, st331⟩ := X330.virtualBack hx (y := (⟨"java/lang/String", "coder", "()B"⟩ : MethodName)) (z := (⟨"java/lang/String", "coder", "()B"⟩ : MethodName)) hown (mvT hZ (hw _ (List.mem_of_getElem? (i := 113) rfl))) (mvT hZ (hw _ (List.mem_of_getElem? (i := 114) rfl))) (notFace_of_selects (args := #[]) (mvT hZ (hw _ (List.mem_of_getElem? (i := 116) rfl)))) (mvT hZ (hw _ (List.mem_of_getElem? (i := 116) rfl))) (mvT hZ (hw _ (List.mem_of_getElem? (i := 115) rfl))) (by decide) (backOf (W := 1) (rm_cdr l Z aT hw [] a0 g1 h0 n0 Z0 hp4 hp1 hg1) hZ (hw _ (List.mem_of_getElem? (i := 117) rfl)) (hw _ (List.mem_of_getElem? (i := 9) rfl)) (by decide) (by decide)) q331a q331c (g := (mkF m 6 #[.val (.ref a0)] [(.ref a0), (.int n)])) rfl (by rw [hml]; rfl) (Steps.refl _) (argsL := []) (rest := [(.int n)]) (lenOf pd8 rfl) rfl (by show 2 * 0 + _ ≤ _; exact Nat.le_of_eq rfl) (hb hby d_len_6) (fun _ _ => ⟨rfl, e330, (by decide : 0 + 0 ≤ _), (by decide : 0 + 0 ≤ _)⟩)
  dsimp only [Pt.U, Pt.locs, Pt.cells, Pt.slots] at X331 l331 y331 z331 st331 hQ331
  subst l331 y331 z331
  obtain ⟨rfl, N331q, eq331⟩ := hQ331
  have N331 := Fr.app N0 N331q
  refine own_tr st331 ?_
  show own_Got p e below _ T331 (mkF m 9 #[.val (.ref a0)] [(.int (0 : Int32)), (.int n)])
  refine g_ishr X331 hx hby d_len_9 (rfl : 9 + 1 = 10) ?_
  refine own_retI X331 hx hby hlk hrt d_len_10 (by decide) (by decide) ?_
  show Q_len Z a0 ob kb n vs g1 h0 n0 _ T331.heap _
  exact ⟨(congrArg (fun z => some (Value.int z)) (own_shr0 n)), N331, eq331⟩
theorem d_asi_0 : decode jdk_68_method_2_code 0 = .ok (.aload_n 0, 1) := by decide +kernel
theorem d_asi_1 : decode jdk_68_method_2_code 1 = .ok (.invokespecial 3, 3) := by decide +kernel
theorem d_asi_4 : decode jdk_68_method_2_code 4 = .ok (.getstatic 18, 3) := by decide +kernel
theorem d_asi_7 : decode jdk_68_method_2_code 7 = .ok (.ifCond .eq 18, 3) := by decide +kernel
theorem d_asi_10 : decode jdk_68_method_2_code 10 = .ok (.aload_n 0, 1) := by decide +kernel
theorem d_asi_11 : decode jdk_68_method_2_code 11 = .ok (.iload_n 1, 1) := by decide +kernel
theorem d_asi_12 : decode jdk_68_method_2_code 12 = .ok (.newarray .byte, 2) := by decide +kernel
theorem d_asi_14 : decode jdk_68_method_2_code 14 = .ok (.putfield 15, 3) := by decide +kernel
theorem d_asi_17 : decode jdk_68_method_2_code 17 = .ok (.aload_n 0, 1) := by decide +kernel
theorem d_asi_18 : decode jdk_68_method_2_code 18 = .ok (.iconst 0, 1) := by decide +kernel
theorem d_asi_19 : decode jdk_68_method_2_code 19 = .ok (.putfield 22, 3) := by decide +kernel
theorem d_asi_22 : decode jdk_68_method_2_code 22 = .ok (.goto 16, 3) := by decide +kernel
theorem d_asi_38 : decode jdk_68_method_2_code 38 = .ok (.return_, 1) := by decide +kernel
theorem pn6 : plainName "java/lang/AbstractStringBuilder" = true := by first | (simp [plainName, overriddenIn]; done) | decide +kernel
theorem ef_asi (m : MethodId) (a0 : Addr) : entryFrame m #[(.ref a0), (.int (16 : Int32))] 2 = mkF m 0 #[.val (.ref a0), .val (.int (16 : Int32))] [] := by first | (simp [entryFrame, mkF, argsToLocals, Value.category]; done) | rfl
def Q_asi (Z : State) (a0 : Addr) (g1 : Int32) (h0 : Heap) (n0 : Nat) (v : Option Value) (h : Heap) (L : List Loc) : Prop := ∃ (vb : Addr), ∃ (kv : ClassId), v = none ∧ Fr n0 L ∧ Keep h0 h [a0] ∧ Exa Z h a0 "java/lang/StringBuilder" ∧ Fld Z h a0 "java/lang/AbstractStringBuilder" "value" "[B" (.ref vb) ∧ Fld Z h a0 "java/lang/AbstractStringBuilder" "coder" "B" (.int (0 : Int32)) ∧ Fld Z h a0 "java/lang/AbstractStringBuilder" "count" "I" (.int (0 : Int32)) ∧ h0.size ≤ vb ∧ Exa Z h vb "[B" ∧ Arv Z h vb kv .byte (16 : Int32) [(.int (0 : Int32)), (.int (0 : Int32)), (.int (0 : Int32)), (.int (0 : Int32)), (.int (0 : Int32)), (.int (0 : Int32)), (.int (0 : Int32)), (.int (0 : Int32)), (.int (0 : Int32)), (.int (0 : Int32)), (.int (0 : Int32)), (.int (0 : Int32)), (.int (0 : Int32)), (.int (0 : Int32)), (.int (0 : Int32)), (.int (0 : Int32))] (.int (0 : Int32))
set_option maxRecDepth 65536 in
set_option maxHeartbeats 40000000 in
theorem rm_asi (l : Launch) (Z : State) (aT : Array Value) (hw : ∀ d ∈ tables_1, d.before aT Z = true) (ws : List Jvm.Cond) (a0 : Addr) (g1 : Int32) (h0 : Heap) (n0 : Nat) (Z0 : n0 ≤ h0.size) (hp0 : Exa Z h0 a0 "java/lang/StringBuilder") (hp1 : Fld Z h0 a0 "java/lang/AbstractStringBuilder" "value" "[B" .null) (hp2 : Fld Z h0 a0 "java/lang/AbstractStringBuilder" "coder" "B" (.int (0 : Int32))) (hp3 : Fld Z h0 a0 "java/lang/AbstractStringBuilder" "count" "I" (.int (0 : Int32))) (hp4 : n0 ≤ a0) (hp5 : Sta Z h0 "java/lang/String" "COMPACT_STRINGS" "Z" (.int g1)) (hg1 : ¬ (g1 = (0 : Int32))) :
    MetFree l (⟨"java/lang/AbstractStringBuilder", "<init>", "(I)V"⟩ : MethodName) (head1 (Jvm.Cond.code (⟨"java/lang/AbstractStringBuilder", "<init>", "(I)V"⟩ : MethodName) jdk_68_method_2_code 2 none :: ws) ({ frames := 1, cells := 1, slots := 16, locals := 12 } : Room)) (fun a U => a = #[(.ref a0), (.int (16 : Int32))] ∧ Z.Warmed39 U.vm ∧ U.heap = h0) (fun _ _ _ _ _ => True) (fun _ U o U' => ∃ v L, o = .returned v ∧ Q_asi Z a0 g1 h0 n0 v U'.heap L ∧ FrameEnd U o U' L ({ frames := 1, cells := 1, slots := 16, locals := 12 } : Room).cells ({ frames := 1, cells := 1, slots := 16, locals := 12 } : Room).slots) := by
  refine MetFree.of_bodySF (plainFor_of_name pn6) hisR ?_
  intro p e s m args below meth c s₁ Bd hml0 hP hK
  obtain ⟨rfl, hZ, hh⟩ := hP
  have hx := Bd.exec
  have hby := Bd.bytes
  have hml : c.maxLocals = 2 := hml0
  have hown : s.vm.findClass "java/lang/AbstractStringBuilder" = some m.cls := findClass_of_methodNamed Bd.named
  have hnm := (name_of_methodNamed Bd.named Bd.method).1
  have hlk := Bd.notSynchronized
  have hrt := Bd.returns
  have X0 : Stand p l e ({ frames := 1, cells := 1, slots := 16, locals := 12 } : Room) s m #[(.ref a0), (.int (16 : Int32))] below meth c s₁ [] 0 0 := Stand.of_body Bd
  have e0 : s₁.heap = h0 := by rw [← hh, Bd.state]; rfl
  have N0 := Fr.nil n0
  refine own_cast (P := own_End s (Q_asi Z a0 g1 h0 n0) ({ frames := 1, cells := 1, slots := 16, locals := 12 } : Room).cells ({ frames := 1, cells := 1, slots := 16, locals := 12 } : Room).slots) (ef_asi m a0) ?_
  refine g_aloadN X0 hx hby d_asi_0 rfl rfl (rfl : 0 + 1 = 1) ?_
  obtain ⟨T332, X332, e332, st332⟩ := initO X0 hx hZ hown (hw _ (List.mem_of_getElem? (i := 92) rfl)) (hw _ (List.mem_of_getElem? (i := 19) rfl)) (hw _ (List.mem_of_getElem? (i := 20) rfl)) e0 (g := (mkF m 1 #[.val (.ref a0), .val (.int (16 : Int32))] [(.ref a0)])) rfl (by rw [hml]; rfl) rfl (hb hby d_asi_1) (by decide) (W := 0) (by show 2 * 0 + _ ≤ _; exact Nat.le_of_eq rfl) (by decide)
  refine own_go st332 ?_
  show own_Got p e below _ T332 (mkF m 4 #[.val (.ref a0), .val (.int (16 : Int32))] [])
  obtain ⟨T333, X333, e333, st333⟩ := getS2 X332 hx hZ hown (host := "") (Or.inl (hw _ (List.mem_of_getElem? (i := 93) rfl))) Via.refl e332 hp5 (g := (mkF m 4 #[.val (.ref a0), .val (.int (16 : Int32))] [])) rfl (hb hby d_asi_4)
  refine own_go st333 ?_
  show own_Got p e below _ T333 (mkF m 7 #[.val (.ref a0), .val (.int (16 : Int32))] [(.int g1)])
  refine g_ifF X333 hx hby d_asi_7 ((if0 _ _).trans (feq hg1).1) (rfl : 7 + 3 = 10) ?_
  refine g_aloadN X333 hx hby d_asi_10 rfl rfl (rfl : 10 + 1 = 11) ?_
  refine g_iloadN X333 hx hby d_asi_11 rfl (rfl : 11 + 1 = 12) ?_
  obtain ⟨T334, h334, k334, X334, e334, E334, A334, B334, st334⟩ := newPE X333 hx hZ (hw _ (List.mem_of_getElem? (i := 22) rfl)) e333 (g := (mkF m 12 #[.val (.ref a0), .val (.int (16 : Int32))] [(.int (16 : Int32)), (.ref a0)])) rfl (hb hby d_asi_12) rfl (by decide) (cap := 16) (by decide) (by decide) (by decide) (by decide) (ad := "[B") (by decide +kernel)
  obtain ⟨b334, g334⟩ : ∃ z, z = h0.size := ⟨_, rfl⟩
  rw [← g334] at A334 B334 st334
  have ne335 : a0 ≠ b334 := Nat.ne_of_lt (Nat.lt_of_lt_of_le (hp0).lt (Nat.le_of_eq g334.symm))
  have Z334 : n0 ≤ h334.size := Nat.le_trans Z0 E334.1
  have K334 : Keep h0 h334 [a0] := (Keep.refl h0 [a0]).ext E334
  have ge334 : n0 ≤ b334 := Nat.le_trans Z0 (Nat.le_of_eq g334.symm)
  have sz334 : h0.size ≤ b334 := Nat.le_trans (Keep.refl h0 [a0]).1 (Nat.le_of_eq g334.symm)
  have V334 : Arv Z h334 b334 k334 .byte (16 : Int32) [(.int (0 : Int32)), (.int (0 : Int32)), (.int (0 : Int32)), (.int (0 : Int32)), (.int (0 : Int32)), (.int (0 : Int32)), (.int (0 : Int32)), (.int (0 : Int32)), (.int (0 : Int32)), (.int (0 : Int32)), (.int (0 : Int32)), (.int (0 : Int32)), (.int (0 : Int32)), (.int (0 : Int32)), (.int (0 : Int32)), (.int (0 : Int32))] (.int (0 : Int32)) := (Arv.new A334 (by decide)).pad (pad_rep [] _ 16)
  refine own_go st334 ?_
  show own_Got p e below _ T334 (mkF m 14 #[.val (.ref a0), .val (.int (16 : Int32))] [(.ref b334), (.ref a0)])
  have f336 : Fld Z h334 a0 "java/lang/AbstractStringBuilder" "value" "[B" .null := (Fld.ext E334 hp1)
  have f337 : Exa Z h334 a0 "java/lang/StringBuilder" := (Exa.ext E334 hp0)
  obtain ⟨T338, h338, X338, e338, W338, st338⟩ := putF X334 hx hZ hown (host := "") (Or.inl (hw _ (List.mem_of_getElem? (i := 94) rfl))) Via.refl e334 f336 f337 (Or.inl (hw _ (List.mem_of_getElem? (i := 95) rfl))) (hw _ (List.mem_of_getElem? (i := 81) rfl)) (ty := (.array .byte)) (by decide) rfl rfl (g := (mkF m 14 #[.val (.ref a0), .val (.int (16 : Int32))] [(.ref b334), (.ref a0)])) rfl rfl (hb hby d_asi_14)
  have Z338 : n0 ≤ h338.size := Nat.le_trans Z334 (Keep.of_wr W338).1
  have N338 := Fr.snoc X338 N0 hp4
  have K338 : Keep h0 h338 [a0] := K334.wr W338 (Or.inl (List.mem_of_getElem? (i := 0) rfl))
  have f338 : Fld Z h338 a0 "java/lang/AbstractStringBuilder" "value" "[B" (.ref b334) := Fld.same W338 f336
  refine own_go st338 ?_
  show own_Got p e below _ T338 (mkF m 17 #[.val (.ref a0), .val (.int (16 : Int32))] [])
  refine g_aloadN X338 hx hby d_asi_17 rfl rfl (rfl : 17 + 1 = 18) ?_
  refine g_iconst X338 hx hby (0 : Int32) d_asi_18 (by decide) (rfl : 18 + 1 = 19) ?_
  have f339 : Fld Z h338 a0 "java/lang/AbstractStringBuilder" "coder" "B" (.int (0 : Int32)) := (Fld.other W338 (Fld.ext E334 hp2) (Or.inr (slot_ne (Or.inl (hw _ (List.mem_of_getElem? (i := 97) rfl))) (Or.inl (hw _ (List.mem_of_getElem? (i := 95) rfl))) (by decide) (t := .byte) (t' := (.array .byte)) (by decide) (by decide))))
  have f340 : Exa Z h338 a0 "java/lang/StringBuilder" := (Exa.wr W338 f337)
  obtain ⟨T341, h341, X341, e341, W341, st341⟩ := putFN X338 hx hZ hown (hw _ (List.mem_of_getElem? (i := 96) rfl)) Via.refl e338 f339 f340 (Or.inl (hw _ (List.mem_of_getElem? (i := 97) rfl))) (hw _ (List.mem_of_getElem? (i := 81) rfl)) (ty := .byte) (v' := (.int (0 : Int32))) (by decide) rfl rfl (g := (mkF m 19 #[.val (.ref a0), .val (.int (16 : Int32))] [(.int (0 : Int32)), (.ref a0)])) rfl rfl (hb hby d_asi_19)
  have Z341 : n0 ≤ h341.size := Nat.le_trans Z338 (Keep.of_wr W341).1
  have N341 := Fr.snoc X341 N338 hp4
  have K341 : Keep h0 h341 [a0] := K338.wr W341 (Or.inl (List.mem_of_getElem? (i := 0) rfl))
  have f341 : Fld Z h341 a0 "java/lang/AbstractStringBuilder" "coder" "B" (.int (0 : Int32)) := Fld.same W341 f339
  refine own_go st341 ?_
  show own_Got p e below _ T341 (mkF m 22 #[.val (.ref a0), .val (.int (16 : Int32))] [])
  refine g_goto X341 hx hby d_asi_22 (by decide) (pc' := 38) (by decide) ?_
  have f342 : Exa Z h341 a0 "java/lang/StringBuilder" := (Exa.wr W341 f340)
  have f343 : Fld Z h341 a0 "java/lang/AbstractStringBuilder" "value" "[B" (.ref b334) := (Fld.other W341 f338 (Or.inr (slot_ne (Or.inl (hw _ (List.mem_of_getElem? (i := 95) rfl))) (Or.inl (hw _ (List.mem_of_getElem? (i := 97) rfl))) (by decide) (t := (.array .byte)) (t' := .byte) (by decide) (by decide))))
  have f344 : Fld Z h341 a0 "java/lang/AbstractStringBuilder" "count" "I" (.int (0 : Int32)) := (Fld.other W341 (Fld.other W338 (Fld.ext E334 hp3) (Or.inr (slot_ne (Or.inl (hw _ (List.mem_of_getElem? (i := 119) rfl))) (Or.inl (hw _ (List.mem_of_getElem? (i := 95) rfl))) (by decide) (t := .int) (t' := (.array .byte)) (by decide) (by decide)))) (Or.inr (slot_ne (Or.inl (hw _ (List.mem_of_getElem? (i := 119) rfl))) (Or.inl (hw _ (List.mem_of_getElem? (i := 97) rfl))) (by decide) (t := .int) (t' := .byte) (by decide) (by decide))))
  have f345 : Exa Z h341 b334 "[B" := (Exa.wr W341 (Exa.wr W338 B334))
  have f346 : Arv Z h341 b334 k334 .byte (16 : Int32) [(.int (0 : Int32)), (.int (0 : Int32)), (.int (0 : Int32)), (.int (0 : Int32)), (.int (0 : Int32)), (.int (0 : Int32)), (.int (0 : Int32)), (.int (0 : Int32)), (.int (0 : Int32)), (.int (0 : Int32)), (.int (0 : Int32)), (.int (0 : Int32)), (.int (0 : Int32)), (.int (0 : Int32)), (.int (0 : Int32)), (.int (0 : Int32))] (.int (0 : Int32)) := (Arv.other (Arv.other V334 W338 (Ne.symm ne335)) W341 (Ne.symm ne335))
  refine own_retV X341 hx hby hlk hrt d_asi_38 (by decide) (by decide) ?_
  show Q_asi Z a0 g1 h0 n0 _ T341.heap _
  rw [e341]
  exact ⟨b334, k334, rfl, N341, K341, f342, f343, f341, f344, sz334, f345, f346⟩
theorem d_sbi_0 : decode jdk_67_method_1_code 0 = .ok (.aload_n 0, 1) := by decide +kernel
theorem d_sbi_1 : decode jdk_67_method_1_code 1 = .ok (.bipush 16, 2) := by decide +kernel
theorem d_sbi_3 : decode jdk_67_method_1_code 3 = .ok (.invokespecial 1, 3) := by decide +kernel
theorem d_sbi_6 : decode jdk_67_method_1_code 6 = .ok (.return_, 1) := by decide +kernel
theorem pn7 : plainName "java/lang/StringBuilder" = true := by first | (simp [plainName, overriddenIn]; done) | decide +kernel
theorem pd9 : parseMethodDescriptor "(I)V" = some ⟨[.int], none⟩ := by decide +kernel
theorem ef_sbi (m : MethodId) (a0 : Addr) : entryFrame m #[(.ref a0)] 1 = mkF m 0 #[.val (.ref a0)] [] := by first | (simp [entryFrame, mkF, argsToLocals, Value.category]; done) | rfl
def Q_sbi (Z : State) (a0 : Addr) (g1 : Int32) (h0 : Heap) (n0 : Nat) (v : Option Value) (h : Heap) (L : List Loc) : Prop := ∃ (vb : Addr), ∃ (kv : ClassId), v = none ∧ Fr n0 L ∧ Keep h0 h [a0] ∧ Exa Z h a0 "java/lang/StringBuilder" ∧ Fld Z h a0 "java/lang/AbstractStringBuilder" "value" "[B" (.ref vb) ∧ Fld Z h a0 "java/lang/AbstractStringBuilder" "coder" "B" (.int (0 : Int32)) ∧ Fld Z h a0 "java/lang/AbstractStringBuilder" "count" "I" (.int (0 : Int32)) ∧ h0.size ≤ vb ∧ Exa Z h vb "[B" ∧ Arv Z h vb kv .byte (16 : Int32) [(.int (0 : Int32)), (.int (0 : Int32)), (.int (0 : Int32)), (.int (0 : Int32)), (.int (0 : Int32)), (.int (0 : Int32)), (.int (0 : Int32)), (.int (0 : Int32)), (.int (0 : Int32)), (.int (0 : Int32)), (.int (0 : Int32)), (.int (0 : Int32)), (.int (0 : Int32)), (.int (0 : Int32)), (.int (0 : Int32)), (.int (0 : Int32))] (.int (0 : Int32))
set_option maxRecDepth 65536 in
set_option maxHeartbeats 40000000 in
theorem rm_sbi (l : Launch) (Z : State) (aT : Array Value) (hw : ∀ d ∈ tables_1, d.before aT Z = true) (ws : List Jvm.Cond) (a0 : Addr) (g1 : Int32) (h0 : Heap) (n0 : Nat) (Z0 : n0 ≤ h0.size) (hp0 : Exa Z h0 a0 "java/lang/StringBuilder") (hp1 : Fld Z h0 a0 "java/lang/AbstractStringBuilder" "value" "[B" .null) (hp2 : Fld Z h0 a0 "java/lang/AbstractStringBuilder" "coder" "B" (.int (0 : Int32))) (hp3 : Fld Z h0 a0 "java/lang/AbstractStringBuilder" "count" "I" (.int (0 : Int32))) (hp4 : n0 ≤ a0) (hp5 : Sta Z h0 "java/lang/String" "COMPACT_STRINGS" "Z" (.int g1)) (hg1 : ¬ (g1 = (0 : Int32))) :
    MetFree l (⟨"java/lang/StringBuilder", "<init>", "()V"⟩ : MethodName) (head1 (Jvm.Cond.code (⟨"java/lang/StringBuilder", "<init>", "()V"⟩ : MethodName) jdk_67_method_1_code 1 none :: ws) ({ frames := 2, cells := 1, slots := 16, locals := 25 } : Room)) (fun a U => a = #[(.ref a0)] ∧ Z.Warmed39 U.vm ∧ U.heap = h0) (fun _ _ _ _ _ => True) (fun _ U o U' => ∃ v L, o = .returned v ∧ Q_sbi Z a0 g1 h0 n0 v U'.heap L ∧ FrameEnd U o U' L ({ frames := 2, cells := 1, slots := 16, locals := 25 } : Room).cells ({ frames := 2, cells := 1, slots := 16, locals := 25 } : Room).slots) := by
  refine MetFree.of_bodySF (plainFor_of_name pn7) hisR ?_
  intro p e s m args below meth c s₁ Bd hml0 hP hK
  obtain ⟨rfl, hZ, hh⟩ := hP
  have hx := Bd.exec
  have hby := Bd.bytes
  have hml : c.maxLocals = 1 := hml0
  have hown : s.vm.findClass "java/lang/StringBuilder" = some m.cls := findClass_of_methodNamed Bd.named
  have hnm := (name_of_methodNamed Bd.named Bd.method).1
  have hlk := Bd.notSynchronized
  have hrt := Bd.returns
  have X0 : Stand p l e ({ frames := 2, cells := 1, slots := 16, locals := 25 } : Room) s m #[(.ref a0)] below meth c s₁ [] 0 0 := Stand.of_body Bd
  have e0 : s₁.heap = h0 := by rw [← hh, Bd.state]; rfl
  have N0 := Fr.nil n0
  refine own_cast (P := own_End s (Q_sbi Z a0 g1 h0 n0) ({ frames := 2, cells := 1, slots := 16, locals := 25 } : Room).cells ({ frames := 2, cells := 1, slots := 16, locals := 25 } : Room).slots) (ef_sbi m a0) ?_
  refine g_aloadN X0 hx hby d_sbi_0 rfl rfl (rfl : 0 + 1 = 1) ?_
  refine g_bipush X0 hx hby (16 : Int32) d_sbi_1 (by decide) (rfl : 1 + 2 = 3) ?_
  obtain ⟨_, _, ⟨T347, L347, k347, n347⟩, -, X347, ⟨Lc347, hQ347, l347, y347, z347⟩, st347⟩ := X0.specialBack hx (y := (⟨"java/lang/AbstractStringBuilder", "<init>", "(I)V"⟩ : MethodName)) rfl hown (mvT hZ (hw _ (List.mem_of_getElem? (i := 86) rfl))) (mvT hZ (hw _ (List.mem_of_getElem? (i := 87) rfl))) (mvT hZ (hw _ (List.mem_of_getElem? (i := 91) rfl))) (by decide) (backOf (W := 0) (rm_asi l Z aT hw [] a0 g1 h0 n0 Z0 hp0 hp1 hp2 hp3 hp4 hp5 hg1) hZ (hw _ (List.mem_of_getElem? (i := 91) rfl)) (hw _ (List.mem_of_getElem? (i := 90) rfl)) (by decide) (by decide)) (g := (mkF m 3 #[.val (.ref a0)] [(.int (16 : Int32)), (.ref a0)])) rfl (by rw [hml]; rfl) (Steps.refl _) (a := a0) (argsL := [(.int (16 : Int32))]) (rest := []) (lenOf pd9 rfl) rfl (by show 2 * 0 + _ ≤ _; exact Nat.le_of_eq rfl) (hb hby d_sbi_3) (fun _ _ => ⟨rfl, e0, (by decide : 0 + 1 ≤ _), (by decide : 0 + 16 ≤ _)⟩)
  dsimp only [Pt.U, Pt.locs, Pt.cells, Pt.slots] at X347 l347 y347 z347 st347 hQ347
  subst l347 y347 z347
  obtain ⟨vb_347, kv_347, rfl, N347q, K347, q347_0, q347_1, q347_2, q347_3, q347_4, q347_5, q347_6⟩ := hQ347
  have N347 := Fr.app N0 N347q
  have Z347 : n0 ≤ T347.heap.size := Nat.le_trans Z0 K347.1
  have KC347 : Keep h0 T347.heap [a0] := (Keep.refl h0 [a0]).trans K347 (allS (Or.inl (List.mem_of_getElem? (i := 0) rfl)) all0)
  have ne348 : a0 ≠ vb_347 := Nat.ne_of_lt (Nat.lt_of_lt_of_le (hp0).lt q347_4)
  have ge349 : n0 ≤ vb_347 := Nat.le_trans Z0 q347_4
  have sz350 : h0.size ≤ vb_347 := Nat.le_trans (Keep.refl h0 [a0]).1 q347_4
  refine own_tr st347 ?_
  show own_Got p e below _ T347 (mkF m 6 #[.val (.ref a0)] [])
  refine own_retV X347 hx hby hlk hrt d_sbi_6 (by decide) (by decide) ?_
  show Q_sbi Z a0 g1 h0 n0 _ T347.heap _
  exact ⟨vb_347, kv_347, rfl, N347, KC347, q347_0, q347_1, q347_2, q347_3, sz350, q347_5, q347_6⟩
theorem d_ens_0 : decode jdk_68_method_9_code 0 = .ok (.aload_n 0, 1) := by decide +kernel
theorem d_ens_1 : decode jdk_68_method_9_code 1 = .ok (.getfield 15, 3) := by decide +kernel
theorem d_ens_4 : decode jdk_68_method_9_code 4 = .ok (.arraylength, 1) := by decide +kernel
theorem d_ens_5 : decode jdk_68_method_9_code 5 = .ok (.aload_n 0, 1) := by decide +kernel
theorem d_ens_6 : decode jdk_68_method_9_code 6 = .ok (.getfield 22, 3) := by decide +kernel
theorem d_ens_9 : decode jdk_68_method_9_code 9 = .ok (.ishr, 1) := by decide +kernel
theorem d_ens_10 : decode jdk_68_method_9_code 10 = .ok (.istore_n 2, 1) := by decide +kernel
theorem d_ens_11 : decode jdk_68_method_9_code 11 = .ok (.iload_n 1, 1) := by decide +kernel
theorem d_ens_12 : decode jdk_68_method_9_code 12 = .ok (.iload_n 2, 1) := by decide +kernel
theorem d_ens_13 : decode jdk_68_method_9_code 13 = .ok (.isub, 1) := by decide +kernel
theorem d_ens_14 : decode jdk_68_method_9_code 14 = .ok (.ifCond .le 24, 3) := by decide +kernel
theorem d_ens_38 : decode jdk_68_method_9_code 38 = .ok (.return_, 1) := by decide +kernel
theorem ef_ens (m : MethodId) (a0 : Addr) (mm : Int32) : entryFrame m #[(.ref a0), (.int mm)] 3 = mkF m 0 #[.val (.ref a0), .val (.int mm), .unset] [] := by first | (simp [entryFrame, mkF, argsToLocals, Value.category]; done) | rfl
def Q_ens (Z : State) (a0 : Addr) (mm : Int32) (vb : Addr) (kv : ClassId) (vv : List Value) (h0 : Heap) (n0 : Nat) (v : Option Value) (h : Heap) (L : List Loc) : Prop := v = none ∧ Fr n0 L ∧ h = h0
set_option maxRecDepth 65536 in
set_option maxHeartbeats 40000000 in
theorem rm_ens (l : Launch) (Z : State) (aT : Array Value) (hw : ∀ d ∈ tables_1, d.before aT Z = true) (ws : List Jvm.Cond) (a0 : Addr) (mm : Int32) (vb : Addr) (kv : ClassId) (vv : List Value) (h0 : Heap) (n0 : Nat) (Z0 : n0 ≤ h0.size) (hp0 : Fld Z h0 a0 "java/lang/AbstractStringBuilder" "value" "[B" (.ref vb)) (hp1 : Arv Z h0 vb kv .byte (16 : Int32) vv (.int (0 : Int32))) (hp2 : Fld Z h0 a0 "java/lang/AbstractStringBuilder" "coder" "B" (.int (0 : Int32))) (hm : ¬ ((0 : Int32) < (mm - (16 : Int32)))) :
    MetFree l (⟨"java/lang/AbstractStringBuilder", "ensureCapacityInternal", "(I)V"⟩ : MethodName) (head1 (Jvm.Cond.code (⟨"java/lang/AbstractStringBuilder", "ensureCapacityInternal", "(I)V"⟩ : MethodName) jdk_68_method_9_code 3 none :: ws) ({ frames := 0, cells := 0, slots := 0, locals := 0 } : Room)) (fun a U => a = #[(.ref a0), (.int mm)] ∧ Z.Warmed39 U.vm ∧ U.heap = h0) (fun _ _ _ _ _ => True) (fun _ U o U' => ∃ v L, o = .returned v ∧ Q_ens Z a0 mm vb kv vv h0 n0 v U'.heap L ∧ FrameEnd U o U' L ({ frames := 0, cells := 0, slots := 0, locals := 0 } : Room).cells ({ frames := 0, cells := 0, slots := 0, locals := 0 } : Room).slots) := by
  refine MetFree.of_bodySF (plainFor_of_name pn6) hisR ?_
  intro p e s m args below meth c s₁ Bd hml0 hP hK
  obtain ⟨rfl, hZ, hh⟩ := hP
  have hx := Bd.exec
  have hby := Bd.bytes
  have hml : c.maxLocals = 3 := hml0
  have hown : s.vm.findClass "java/lang/AbstractStringBuilder" = some m.cls := findClass_of_methodNamed Bd.named
  have hnm := (name_of_methodNamed Bd.named Bd.method).1
  have hlk := Bd.notSynchronized
  have hrt := Bd.returns
  have X0 : Stand p l e ({ frames := 0, cells := 0, slots := 0, locals := 0 } : Room) s m #[(.ref a0), (.int mm)] below meth c s₁ [] 0 0 := Stand.of_body Bd
  have e0 : s₁.heap = h0 := by rw [← hh, Bd.state]; rfl
  have N0 := Fr.nil n0
  refine own_cast (P := own_End s (Q_ens Z a0 mm vb kv vv h0 n0) ({ frames := 0, cells := 0, slots := 0, locals := 0 } : Room).cells ({ frames := 0, cells := 0, slots := 0, locals := 0 } : Room).slots) (ef_ens m a0 mm) ?_
  refine g_aloadN X0 hx hby d_ens_0 rfl rfl (rfl : 0 + 1 = 1) ?_
  obtain ⟨T351, X351, e351, st351⟩ := getF X0 hx hZ hown (host := "") (Or.inl (hw _ (List.mem_of_getElem? (i := 94) rfl))) Via.refl e0 hp0 (g := (mkF m 1 #[.val (.ref a0), .val (.int mm), .unset] [(.ref a0)])) rfl rfl (hb hby d_ens_1)
  refine own_go st351 ?_
  show own_Got p e below _ T351 (mkF m 4 #[.val (.ref a0), .val (.int mm), .unset] [(.ref vb)])
  refine g_alen X351 hx hby hZ e351 hp1 d_ens_4 (rfl : 4 + 1 = 5) ?_
  refine g_aloadN X351 hx hby d_ens_5 rfl rfl (rfl : 5 + 1 = 6) ?_
  obtain ⟨T352, X352, e352, st352⟩ := getF X351 hx hZ hown (host := "") (Or.inl (hw _ (List.mem_of_getElem? (i := 96) rfl))) Via.refl e351 hp2 (g := (mkF m 6 #[.val (.ref a0), .val (.int mm), .unset] [(.ref a0), (.int (16 : Int32))])) rfl rfl (hb hby d_ens_6)
  refine own_go st352 ?_
  show own_Got p e below _ T352 (mkF m 9 #[.val (.ref a0), .val (.int mm), .unset] [(.int (0 : Int32)), (.int (16 : Int32))])
  refine g_ishr X352 hx hby d_ens_9 (rfl : 9 + 1 = 10) ?_
  rw [(by decide : ((16 : Int32) >>> ((0 : Int32) &&& 31)) = (16 : Int32))]
  refine g_istoreN X352 hx hby #[.val (.ref a0), .val (.int mm), .val (.int (16 : Int32))] d_ens_10 rfl (rfl : 10 + 1 = 11) ?_
  refine g_iloadN X352 hx hby d_ens_11 rfl (rfl : 11 + 1 = 12) ?_
  refine g_iloadN X352 hx hby d_ens_12 rfl (rfl : 12 + 1 = 13) ?_
  refine g_isub X352 hx hby d_ens_13 (rfl : 13 + 1 = 14) ?_
  refine g_ifT X352 hx hby d_ens_14 ((if0 _ _).trans (flt hm).2.2.2) (by decide) (pc' := 38) (by decide) ?_
  refine own_retV X352 hx hby hlk hrt d_ens_38 (by decide) (by decide) ?_
  show Q_ens Z a0 mm vb kv vv h0 n0 _ T352.heap _
  exact ⟨rfl, N0, e352⟩
theorem d_inf_0 : decode jdk_68_method_71_code 0 = .ok (.getstatic 18, 3) := by decide +kernel
theorem d_inf_3 : decode jdk_68_method_71_code 3 = .ok (.ifCond .eq 18, 3) := by decide +kernel
theorem d_inf_6 : decode jdk_68_method_71_code 6 = .ok (.aload_n 0, 1) := by decide +kernel
theorem d_inf_7 : decode jdk_68_method_71_code 7 = .ok (.getfield 22, 3) := by decide +kernel
theorem d_inf_10 : decode jdk_68_method_71_code 10 = .ok (.aload_n 1, 1) := by decide +kernel
theorem d_inf_11 : decode jdk_68_method_71_code 11 = .ok (.invokevirtual 40, 3) := by decide +kernel
theorem d_inf_14 : decode jdk_68_method_71_code 14 = .ok (.if_icmp .eq 7, 3) := by decide +kernel
theorem d_inf_21 : decode jdk_68_method_71_code 21 = .ok (.return_, 1) := by decide +kernel
theorem ef_inf (m : MethodId) (a0 : Addr) (a1 : Addr) : entryFrame m #[(.ref a0), (.ref a1)] 2 = mkF m 0 #[.val (.ref a0), .val (.ref a1)] [] := by first | (simp [entryFrame, mkF, argsToLocals, Value.category]; done) | rfl
def Q_inf (Z : State) (a0 : Addr) (a1 : Addr) (g1 : Int32) (h0 : Heap) (n0 : Nat) (v : Option Value) (h : Heap) (L : List Loc) : Prop := v = none ∧ Fr n0 L ∧ h = h0
set_option maxRecDepth 65536 in
set_option maxHeartbeats 40000000 in
theorem rm_inf (l : Launch) (Z : State) (aT : Array Value) (hw : ∀ d ∈ tables_1, d.before aT Z = true) (ws : List Jvm.Cond) (a0 : Addr) (a1 : Addr) (g1 : Int32) (h0 : Heap) (n0 : Nat) (Z0 : n0 ≤ h0.size) (hp0 : Fld Z h0 a0 "java/lang/AbstractStringBuilder" "coder" "B" (.int (0 : Int32))) (hp1 : Exa Z h0 a1 "java/lang/String") (hp2 : Fld Z h0 a1 "java/lang/String" "coder" "B" (.int (0 : Int32))) (hp3 : Sta Z h0 "java/lang/String" "COMPACT_STRINGS" "Z" (.int g1)) (hg1 : ¬ (g1 = (0 : Int32))) :
    MetFree l (⟨"java/lang/AbstractStringBuilder", "inflateIfNeededFor", "(Ljava/lang/String;)V"⟩ : MethodName) (head1 (Jvm.Cond.code (⟨"java/lang/AbstractStringBuilder", "inflateIfNeededFor", "(Ljava/lang/String;)V"⟩ : MethodName) jdk_68_method_71_code 2 none :: ws) ({ frames := 1, cells := 0, slots := 0, locals := 13 } : Room)) (fun a U => a = #[(.ref a0), (.ref a1)] ∧ Z.Warmed39 U.vm ∧ U.heap = h0) (fun _ _ _ _ _ => True) (fun _ U o U' => ∃ v L, o = .returned v ∧ Q_inf Z a0 a1 g1 h0 n0 v U'.heap L ∧ FrameEnd U o U' L ({ frames := 1, cells := 0, slots := 0, locals := 13 } : Room).cells ({ frames := 1, cells := 0, slots := 0, locals := 13 } : Room).slots) := by
  refine MetFree.of_bodySF (plainFor_of_name pn6) hisR ?_
  intro p e s m args below meth c s₁ Bd hml0 hP hK
  obtain ⟨rfl, hZ, hh⟩ := hP
  have hx := Bd.exec
  have hby := Bd.bytes
  have hml : c.maxLocals = 2 := hml0
  have hown : s.vm.findClass "java/lang/AbstractStringBuilder" = some m.cls := findClass_of_methodNamed Bd.named
  have hnm := (name_of_methodNamed Bd.named Bd.method).1
  have hlk := Bd.notSynchronized
  have hrt := Bd.returns
  have X0 : Stand p l e ({ frames := 1, cells := 0, slots := 0, locals := 13 } : Room) s m #[(.ref a0), (.ref a1)] below meth c s₁ [] 0 0 := Stand.of_body Bd
  have e0 : s₁.heap = h0 := by rw [← hh, Bd.state]; rfl
  have N0 := Fr.nil n0
  refine own_cast (P := own_End s (Q_inf Z a0 a1 g1 h0 n0) ({ frames := 1, cells := 0, slots := 0, locals := 13 } : Room).cells ({ frames := 1, cells := 0, slots := 0, locals := 13 } : Room).slots) (ef_inf m a0 a1) ?_
  obtain ⟨T353, X353, e353, st353⟩ := getS2 X0 hx hZ hown (host := "") (Or.inl (hw _ (List.mem_of_getElem? (i := 93) rfl))) Via.refl e0 hp3 (g := (mkF m 0 #[.val (.ref a0), .val (.ref a1)] [])) rfl (hb hby d_inf_0)
  refine own_go st353 ?_
  show own_Got p e below _ T353 (mkF m 3 #[.val (.ref a0), .val (.ref a1)] [(.int g1)])
  refine g_ifF X353 hx hby d_inf_3 ((if0 _ _).trans (feq hg1).1) (rfl : 3 + 3 = 6) ?_
  refine g_aloadN X353 hx hby d_inf_6 rfl rfl (rfl : 6 + 1 = 7) ?_
  obtain ⟨T354, X354, e354, st354⟩ := getF X353 hx hZ hown (host := "") (Or.inl (hw _ (List.mem_of_getElem? (i := 96) rfl))) Via.refl e353 hp0 (g := (mkF m 7 #[.val (.ref a0), .val (.ref a1)] [(.ref a0)])) rfl rfl (hb hby d_inf_7)
  refine own_go st354 ?_
  show own_Got p e below _ T354 (mkF m 10 #[.val (.ref a0), .val (.ref a1)] [(.int (0 : Int32))])
  refine g_aloadN X354 hx hby d_inf_10 rfl rfl (rfl : 10 + 1 = 11) ?_
  obtain ⟨cq355, kq355, q355a, q355b, q355c⟩ := isOf hZ e354 hp1
  obtain ⟨_, _, ⟨T355, L355, k355, n355⟩, -, X355, ⟨Lc355, hQ355, l355, y355, z355⟩, st355⟩ := X354.virtualBack hx (y := (⟨"java/lang/String", "coder", "()B"⟩ : MethodName)) (z := (⟨"java/lang/String", "coder", "()B"⟩ : MethodName)) hown (mvT hZ (hw _ (List.mem_of_getElem? (i := 135) rfl))) (mvT hZ (hw _ (List.mem_of_getElem? (i := 114) rfl))) (notFace_of_selects (args := #[]) (mvT hZ (hw _ (List.mem_of_getElem? (i := 116) rfl)))) (mvT hZ (hw _ (List.mem_of_getElem? (i := 116) rfl))) (mvT hZ (hw _ (List.mem_of_getElem? (i := 115) rfl))) (by decide) (backOf (W := 1) (rm_cdr l Z aT hw [] a1 g1 h0 n0 Z0 hp3 hp2 hg1) hZ (hw _ (List.mem_of_getElem? (i := 117) rfl)) (hw _ (List.mem_of_getElem? (i := 9) rfl)) (by decide) (by decide)) q355a q355c (g := (mkF m 11 #[.val (.ref a0), .val (.ref a1)] [(.ref a1), (.int (0 : Int32))])) rfl (by rw [hml]; rfl) (Steps.refl _) (argsL := []) (rest := [(.int (0 : Int32))]) (lenOf pd8 rfl) rfl (by show 2 * 0 + _ ≤ _; exact Nat.le_of_eq rfl) (hb hby d_inf_11) (fun _ _ => ⟨rfl, e354, (by decide : 0 + 0 ≤ _), (by decide : 0 + 0 ≤ _)⟩)
  dsimp only [Pt.U, Pt.locs, Pt.cells, Pt.slots] at X355 l355 y355 z355 st355 hQ355
  subst l355 y355 z355
  obtain ⟨rfl, N355q, eq355⟩ := hQ355
  have N355 := Fr.app N0 N355q
  refine own_tr st355 ?_
  show own_Got p e below _ T355 (mkF m 14 #[.val (.ref a0), .val (.ref a1)] [(.int (0 : Int32)), (.int (0 : Int32))])
  refine g_icT X355 hx hby d_inf_14 (teq (by decide : (0 : Int32) = (0 : Int32))).1 (by decide) (pc' := 21) (by decide) ?_
  refine own_retV X355 hx hby hlk hrt d_inf_21 (by decide) (by decide) ?_
  show Q_inf Z a0 a1 g1 h0 n0 _ T355.heap _
  exact ⟨rfl, N355, eq355⟩
theorem d_gby_0 : decode jdk_42_method_147_code 0 = .ok (.aload_n 0, 1) := by decide +kernel
theorem d_gby_1 : decode jdk_42_method_147_code 1 = .ok (.invokevirtual 335, 3) := by decide +kernel
theorem d_gby_4 : decode jdk_42_method_147_code 4 = .ok (.iload_n 3, 1) := by decide +kernel
theorem d_gby_5 : decode jdk_42_method_147_code 5 = .ok (.if_icmp .ne 23, 3) := by decide +kernel
theorem d_gby_8 : decode jdk_42_method_147_code 8 = .ok (.aload_n 0, 1) := by decide +kernel
theorem d_gby_9 : decode jdk_42_method_147_code 9 = .ok (.getfield 9, 3) := by decide +kernel
theorem d_gby_12 : decode jdk_42_method_147_code 12 = .ok (.iconst 0, 1) := by decide +kernel
theorem d_gby_13 : decode jdk_42_method_147_code 13 = .ok (.aload_n 1, 1) := by decide +kernel
theorem d_gby_14 : decode jdk_42_method_147_code 14 = .ok (.iload_n 2, 1) := by decide +kernel
theorem d_gby_15 : decode jdk_42_method_147_code 15 = .ok (.iload_n 3, 1) := by decide +kernel
theorem d_gby_16 : decode jdk_42_method_147_code 16 = .ok (.ishl, 1) := by decide +kernel
theorem d_gby_17 : decode jdk_42_method_147_code 17 = .ok (.aload_n 0, 1) := by decide +kernel
theorem d_gby_18 : decode jdk_42_method_147_code 18 = .ok (.getfield 9, 3) := by decide +kernel
theorem d_gby_21 : decode jdk_42_method_147_code 21 = .ok (.arraylength, 1) := by decide +kernel
theorem d_gby_22 : decode jdk_42_method_147_code 22 = .ok (.invokestatic 212, 3) := by decide +kernel
theorem d_gby_25 : decode jdk_42_method_147_code 25 = .ok (.goto 18, 3) := by decide +kernel
theorem d_gby_43 : decode jdk_42_method_147_code 43 = .ok (.return_, 1) := by decide +kernel
theorem ef_gby (m : MethodId) (a0 : Addr) (vb : Addr) (ct : Int32) : entryFrame m #[(.ref a0), (.ref vb), (.int ct), (.int (0 : Int32))] 4 = mkF m 0 #[.val (.ref a0), .val (.ref vb), .val (.int ct), .val (.int (0 : Int32))] [] := by first | (simp [entryFrame, mkF, argsToLocals, Value.category]; done) | rfl
def Q_gby (Z : State) (a0 : Addr) (vb : Addr) (ct : Int32) (ob : Addr) (kb : ClassId) (n : Int32) (vs : List Value) (kv : ClassId) (vv : List Value) (g1 : Int32) (h0 : Heap) (n0 : Nat) (v : Option Value) (h : Heap) (L : List Loc) : Prop := ∃ (vz : List Value), v = none ∧ Fr n0 L ∧ Keep h0 h [vb] ∧ Exa Z h vb "[B" ∧ Arv Z h vb kv .byte (16 : Int32) vz (.int (0 : Int32)) ∧ vz.length = 16
set_option maxRecDepth 65536 in
set_option maxHeartbeats 40000000 in
theorem rm_gby (l : Launch) (Z : State) (aT : Array Value) (hw : ∀ d ∈ tables_1, d.before aT Z = true) (ws : List Jvm.Cond) (a0 : Addr) (vb : Addr) (ct : Int32) (ob : Addr) (kb : ClassId) (n : Int32) (vs : List Value) (kv : ClassId) (vv : List Value) (g1 : Int32) (h0 : Heap) (n0 : Nat) (Z0 : n0 ≤ h0.size) (hp0 : Exa Z h0 a0 "java/lang/String") (hp1 : Fld Z h0 a0 "java/lang/String" "coder" "B" (.int (0 : Int32))) (hp2 : Fld Z h0 a0 "java/lang/String" "value" "[B" (.ref ob)) (hp3 : Arv Z h0 ob kb .byte n vs (.int (0 : Int32))) (hp4 : Exa Z h0 vb "[B") (hp5 : Arv Z h0 vb kv .byte (16 : Int32) vv (.int (0 : Int32))) (hp6 : n0 ≤ vb) (hp7 : Sta Z h0 "java/lang/String" "COMPACT_STRINGS" "Z" (.int g1)) (hg1 : ¬ (g1 = (0 : Int32))) (hbd : own_bnd ct n) (hl16 : vv.length = 16) :
    MetFree l (⟨"java/lang/String", "getBytes", "([BIB)V"⟩ : MethodName) (head1 (Jvm.Cond.code (⟨"java/lang/String", "getBytes", "([BIB)V"⟩ : MethodName) jdk_42_method_147_code 4 none :: ws) ({ frames := 1, cells := 0, slots := 0, locals := 27 } : Room)) (fun a U => a = #[(.ref a0), (.ref vb), (.int ct), (.int (0 : Int32))] ∧ Z.Warmed39 U.vm ∧ U.heap = h0) (fun _ _ _ _ _ => True) (fun _ U o U' => ∃ v L, o = .returned v ∧ Q_gby Z a0 vb ct ob kb n vs kv vv g1 h0 n0 v U'.heap L ∧ FrameEnd U o U' L ({ frames := 1, cells := 0, slots := 0, locals := 27 } : Room).cells ({ frames := 1, cells := 0, slots := 0, locals := 27 } : Room).slots) := by
  refine MetFree.of_bodySF (plainFor_of_name pn1) hisR ?_
  intro p e s m args below meth c s₁ Bd hml0 hP hK
  obtain ⟨rfl, hZ, hh⟩ := hP
  have hx := Bd.exec
  have hby := Bd.bytes
  have hml : c.maxLocals = 4 := hml0
  have hown : s.vm.findClass "java/lang/String" = some m.cls := findClass_of_methodNamed Bd.named
  have hnm := (name_of_methodNamed Bd.named Bd.method).1
  have hlk := Bd.notSynchronized
  have hrt := Bd.returns
  have X0 : Stand p l e ({ frames := 1, cells := 0, slots := 0, locals := 27 } : Room) s m #[(.ref a0), (.ref vb), (.int ct), (.int (0 : Int32))] below meth c s₁ [] 0 0 := Stand.of_body Bd
  have e0 : s₁.heap = h0 := by rw [← hh, Bd.state]; rfl
  have N0 := Fr.nil n0
  refine own_cast (P := own_End s (Q_gby Z a0 vb ct ob kb n vs kv vv g1 h0 n0) ({ frames := 1, cells := 0, slots := 0, locals := 27 } : Room).cells ({ frames := 1, cells := 0, slots := 0, locals := 27 } : Room).slots) (ef_gby m a0 vb ct) ?_
  refine g_aloadN X0 hx hby d_gby_0 rfl rfl (rfl : 0 + 1 = 1) ?_
  obtain ⟨cq356, kq356, q356a, q356b, q356c⟩ := isOf hZ e0 hp0
  obtain ⟨_, _, ⟨T356, L356, k356, n356⟩, -, X356, ⟨Lc356, hQ356, l356, y356, z356⟩, st356⟩ := X0.virtualBack hx (y := (⟨"java/lang/String", "coder", "()B"⟩ : MethodName)) (z := (⟨"java/lang/String", "coder", "()B"⟩ : MethodName)) hown (mvT hZ (hw _ (List.mem_of_getElem? (i := 113) rfl))) (mvT hZ (hw _ (List.mem_of_getElem? (i := 114) rfl))) (notFace_of_selects (args := #[]) (mvT hZ (hw _ (List.mem_of_getElem? (i := 116) rfl)))) (mvT hZ (hw _ (List.mem_of_getElem? (i := 116) rfl))) (mvT hZ (hw _ (List.mem_of_getElem? (i := 115) rfl))) (by decide) (backOf (W := 0) (rm_cdr l Z aT hw [] a0 g1 h0 n0 Z0 hp7 hp1 hg1) hZ (hw _ (List.mem_of_getElem? (i := 117) rfl)) (hw _ (List.mem_of_getElem? (i := 9) rfl)) (by decide) (by decide)) q356a q356c (g := (mkF m 1 #[.val (.ref a0), .val (.ref vb), .val (.int ct), .val (.int (0 : Int32))] [(.ref a0)])) rfl (by rw [hml]; rfl) (Steps.refl _) (argsL := []) (rest := []) (lenOf pd8 rfl) rfl (by show 2 * 0 + _ ≤ _; exact Nat.le_of_eq rfl) (hb hby d_gby_1) (fun _ _ => ⟨rfl, e0, (by decide : 0 + 0 ≤ _), (by decide : 0 + 0 ≤ _)⟩)
  dsimp only [Pt.U, Pt.locs, Pt.cells, Pt.slots] at X356 l356 y356 z356 st356 hQ356
  subst l356 y356 z356
  obtain ⟨rfl, N356q, eq356⟩ := hQ356
  have N356 := Fr.app N0 N356q
  refine own_tr st356 ?_
  show own_Got p e below _ T356 (mkF m 4 #[.val (.ref a0), .val (.ref vb), .val (.int ct), .val (.int (0 : Int32))] [(.int (0 : Int32))])
  refine g_iloadN X356 hx hby d_gby_4 rfl (rfl : 4 + 1 = 5) ?_
  refine g_icF X356 hx hby d_gby_5 (teq (by decide : (0 : Int32) = (0 : Int32))).2 (rfl : 5 + 3 = 8) ?_
  refine g_aloadN X356 hx hby d_gby_8 rfl rfl (rfl : 8 + 1 = 9) ?_
  obtain ⟨T357, X357, e357, st357⟩ := getF X356 hx hZ hown (host := "") (Or.inl (hw _ (List.mem_of_getElem? (i := 27) rfl))) Via.refl eq356 hp2 (g := (mkF m 9 #[.val (.ref a0), .val (.ref vb), .val (.int ct), .val (.int (0 : Int32))] [(.ref a0)])) rfl rfl (hb hby d_gby_9)
  refine own_go st357 ?_
  show own_Got p e below _ T357 (mkF m 12 #[.val (.ref a0), .val (.ref vb), .val (.int ct), .val (.int (0 : Int32))] [(.ref ob)])
  refine g_iconst X357 hx hby (0 : Int32) d_gby_12 (by decide) (rfl : 12 + 1 = 13) ?_
  refine g_aloadN X357 hx hby d_gby_13 rfl rfl (rfl : 13 + 1 = 14) ?_
  refine g_iloadN X357 hx hby d_gby_14 rfl (rfl : 14 + 1 = 15) ?_
  refine g_iloadN X357 hx hby d_gby_15 rfl (rfl : 15 + 1 = 16) ?_
  refine g_ishl X357 hx hby d_gby_16 (rfl : 16 + 1 = 17) ?_
  rw [own_shl0 ct]
  refine g_aloadN X357 hx hby d_gby_17 rfl rfl (rfl : 17 + 1 = 18) ?_
  obtain ⟨T358, X358, e358, st358⟩ := getF X357 hx hZ hown (host := "") (Or.inl (hw _ (List.mem_of_getElem? (i := 27) rfl))) Via.refl e357 hp2 (g := (mkF m 18 #[.val (.ref a0), .val (.ref vb), .val (.int ct), .val (.int (0 : Int32))] [(.ref a0), (.int ct), (.ref vb), (.int (0 : Int32)), (.ref ob)])) rfl rfl (hb hby d_gby_18)
  refine own_go st358 ?_
  show own_Got p e below _ T358 (mkF m 21 #[.val (.ref a0), .val (.ref vb), .val (.int ct), .val (.int (0 : Int32))] [(.ref ob), (.int ct), (.ref vb), (.int (0 : Int32)), (.ref ob)])
  refine g_alen X358 hx hby hZ e358 hp3 d_gby_21 (rfl : 21 + 1 = 22) ?_
  obtain ⟨T359, h359, L359, X359, e359, N359, K359, V359, st359⟩ := cpA X358 hx hZ hown (hw _ (List.mem_of_getElem? (i := 141) rfl)) (hw _ (List.mem_of_getElem? (i := 144) rfl)) (hw _ (List.mem_of_getElem? (i := 142) rfl)) (hw _ (List.mem_of_getElem? (i := 143) rfl)) e358 hp3 hp5 (Or.inl ⟨rfl, rfl⟩) (by decide) (own_pos hbd) (own_pos' hbd) (Nat.le_of_eq (Nat.zero_add _)) (own_in hbd) rfl (Nat.le_trans (own_in hbd) (Nat.le_of_eq hl16.symm)) N356 hp6 (g := (mkF m 22 #[.val (.ref a0), .val (.ref vb), .val (.int ct), .val (.int (0 : Int32))] [(.int n), (.int ct), (.ref vb), (.int (0 : Int32)), (.ref ob)])) rfl (by rw [hml]; rfl) (rest := []) rfl (hb hby d_gby_22) (by decide) (W := 0) (by show 2 * 0 + _ ≤ _; exact Nat.le_of_eq rfl) (by decide)
  obtain ⟨vq359, lq359, Vq359⟩ : ∃ vq : List Value, vq.length = 16 ∧ Arv Z h359 vb kv .byte (16 : Int32) vq (.int (0 : Int32)) := ⟨_, (by have q := own_in hbd; have q2 := hl16; simp only [List.length_append, List.length_take, List.length_drop, List.length_map, List.length_range]; omega), V359⟩
  have Z359 : n0 ≤ h359.size := Nat.le_trans Z0 K359.1
  have KC359 : Keep h0 h359 [vb] := (Keep.refl h0 [vb]).trans K359 (allS (Or.inl (List.mem_of_getElem? (i := 0) rfl)) all0)
  refine own_go st359 ?_
  show own_Got p e below _ T359 (mkF m 25 #[.val (.ref a0), .val (.ref vb), .val (.int ct), .val (.int (0 : Int32))] [])
  refine g_goto X359 hx hby d_gby_25 (by decide) (pc' := 43) (by decide) ?_
  have f360 : Exa Z h359 vb "[B" := (Exa.keep hp4 K359)
  refine own_retV X359 hx hby hlk hrt d_gby_43 (by decide) (by decide) ?_
  show Q_gby Z a0 vb ct ob kb n vs kv vv g1 h0 n0 _ T359.heap _
  rw [e359]
  exact ⟨vq359, rfl, N359, KC359, f360, Vq359, lq359⟩
theorem d_psa_0 : decode jdk_68_method_73_code 0 = .ok (.aload_n 0, 1) := by decide +kernel
theorem d_psa_1 : decode jdk_68_method_73_code 1 = .ok (.aload_n 2, 1) := by decide +kernel
theorem d_psa_2 : decode jdk_68_method_73_code 2 = .ok (.invokevirtual 397, 3) := by decide +kernel
theorem d_psa_5 : decode jdk_68_method_73_code 5 = .ok (.aload_n 2, 1) := by decide +kernel
theorem d_psa_6 : decode jdk_68_method_73_code 6 = .ok (.aload_n 0, 1) := by decide +kernel
theorem d_psa_7 : decode jdk_68_method_73_code 7 = .ok (.getfield 15, 3) := by decide +kernel
theorem d_psa_10 : decode jdk_68_method_73_code 10 = .ok (.iload_n 1, 1) := by decide +kernel
theorem d_psa_11 : decode jdk_68_method_73_code 11 = .ok (.aload_n 0, 1) := by decide +kernel
theorem d_psa_12 : decode jdk_68_method_73_code 12 = .ok (.getfield 22, 3) := by decide +kernel
theorem d_psa_15 : decode jdk_68_method_73_code 15 = .ok (.invokevirtual 399, 3) := by decide +kernel
theorem d_psa_18 : decode jdk_68_method_73_code 18 = .ok (.return_, 1) := by decide +kernel
theorem pd10 : parseMethodDescriptor "(Ljava/lang/String;)V" = some ⟨[(.object "java/lang/String")], none⟩ := by decide +kernel
theorem pd11 : parseMethodDescriptor "([BIB)V" = some ⟨[(.array .byte), .int, .byte], none⟩ := by decide +kernel
theorem ef_psa (m : MethodId) (a0 : Addr) (ct : Int32) (a1 : Addr) : entryFrame m #[(.ref a0), (.int ct), (.ref a1)] 3 = mkF m 0 #[.val (.ref a0), .val (.int ct), .val (.ref a1)] [] := by first | (simp [entryFrame, mkF, argsToLocals, Value.category]; done) | rfl
def Q_psa (Z : State) (a0 : Addr) (ct : Int32) (a1 : Addr) (ob : Addr) (kb : ClassId) (n : Int32) (vs : List Value) (vb : Addr) (kv : ClassId) (vv : List Value) (g1 : Int32) (h0 : Heap) (n0 : Nat) (v : Option Value) (h : Heap) (L : List Loc) : Prop := ∃ (vz : List Value), v = none ∧ Fr n0 L ∧ Keep h0 h [vb] ∧ Exa Z h vb "[B" ∧ Arv Z h vb kv .byte (16 : Int32) vz (.int (0 : Int32)) ∧ vz.length = 16
set_option maxRecDepth 65536 in
set_option maxHeartbeats 40000000 in
theorem rm_psa (l : Launch) (Z : State) (aT : Array Value) (hw : ∀ d ∈ tables_1, d.before aT Z = true) (ws : List Jvm.Cond) (a0 : Addr) (ct : Int32) (a1 : Addr) (ob : Addr) (kb : ClassId) (n : Int32) (vs : List Value) (vb : Addr) (kv : ClassId) (vv : List Value) (g1 : Int32) (h0 : Heap) (n0 : Nat) (Z0 : n0 ≤ h0.size) (hp0 : Exa Z h0 a0 "java/lang/StringBuilder") (hp1 : Fld Z h0 a0 "java/lang/AbstractStringBuilder" "value" "[B" (.ref vb)) (hp2 : Fld Z h0 a0 "java/lang/AbstractStringBuilder" "coder" "B" (.int (0 : Int32))) (hp3 : Exa Z h0 a1 "java/lang/String") (hp4 : Fld Z h0 a1 "java/lang/String" "coder" "B" (.int (0 : Int32))) (hp5 : Fld Z h0 a1 "java/lang/String" "value" "[B" (.ref ob)) (hp6 : Arv Z h0 ob kb .byte n vs (.int (0 : Int32))) (hp7 : Exa Z h0 vb "[B") (hp8 : Arv Z h0 vb kv .byte (16 : Int32) vv (.int (0 : Int32))) (hp9 : n0 ≤ vb) (hp10 : Sta Z h0 "java/lang/String" "COMPACT_STRINGS" "Z" (.int g1)) (hg1 : ¬ (g1 = (0 : Int32))) (hbd : own_bnd ct n) (hl16 : vv.length = 16) :
    MetFree l (⟨"java/lang/AbstractStringBuilder", "putStringAt", "(ILjava/lang/String;)V"⟩ : MethodName) (head1 (Jvm.Cond.code (⟨"java/lang/AbstractStringBuilder", "putStringAt", "(ILjava/lang/String;)V"⟩ : MethodName) jdk_68_method_73_code 3 none :: ws) ({ frames := 2, cells := 0, slots := 0, locals := 42 } : Room)) (fun a U => a = #[(.ref a0), (.int ct), (.ref a1)] ∧ Z.Warmed39 U.vm ∧ U.heap = h0) (fun _ _ _ _ _ => True) (fun _ U o U' => ∃ v L, o = .returned v ∧ Q_psa Z a0 ct a1 ob kb n vs vb kv vv g1 h0 n0 v U'.heap L ∧ FrameEnd U o U' L ({ frames := 2, cells := 0, slots := 0, locals := 42 } : Room).cells ({ frames := 2, cells := 0, slots := 0, locals := 42 } : Room).slots) := by
  refine MetFree.of_bodySF (plainFor_of_name pn6) hisR ?_
  intro p e s m args below meth c s₁ Bd hml0 hP hK
  obtain ⟨rfl, hZ, hh⟩ := hP
  have hx := Bd.exec
  have hby := Bd.bytes
  have hml : c.maxLocals = 3 := hml0
  have hown : s.vm.findClass "java/lang/AbstractStringBuilder" = some m.cls := findClass_of_methodNamed Bd.named
  have hnm := (name_of_methodNamed Bd.named Bd.method).1
  have hlk := Bd.notSynchronized
  have hrt := Bd.returns
  have X0 : Stand p l e ({ frames := 2, cells := 0, slots := 0, locals := 42 } : Room) s m #[(.ref a0), (.int ct), (.ref a1)] below meth c s₁ [] 0 0 := Stand.of_body Bd
  have e0 : s₁.heap = h0 := by rw [← hh, Bd.state]; rfl
  have N0 := Fr.nil n0
  refine own_cast (P := own_End s (Q_psa Z a0 ct a1 ob kb n vs vb kv vv g1 h0 n0) ({ frames := 2, cells := 0, slots := 0, locals := 42 } : Room).cells ({ frames := 2, cells := 0, slots := 0, locals := 42 } : Room).slots) (ef_psa m a0 ct a1) ?_
  refine g_aloadN X0 hx hby d_psa_0 rfl rfl (rfl : 0 + 1 = 1) ?_
  refine g_aloadN X0 hx hby d_psa_1 rfl rfl (rfl : 1 + 1 = 2) ?_
  obtain ⟨cq361, kq361, q361a, q361b, q361c⟩ := isOf hZ e0 hp0
  obtain ⟨_, _, ⟨T361, L361, k361, n361⟩, -, X361, ⟨Lc361, hQ361, l361, y361, z361⟩, st361⟩ := X0.virtualBack hx (y := (⟨"java/lang/AbstractStringBuilder", "inflateIfNeededFor", "(Ljava/lang/String;)V"⟩ : MethodName)) (z := (⟨"java/lang/AbstractStringBuilder", "inflateIfNeededFor", "(Ljava/lang/String;)V"⟩ : MethodName)) hown (mvT hZ (hw _ (List.mem_of_getElem? (i := 130) rfl))) (own_declares (mvT hZ (hw _ (List.mem_of_getElem? (i := 131) rfl))) (mvT hZ (hw _ (List.mem_of_getElem? (i := 134) rfl)))) (notFace_of_selects (args := #[]) (mvT hZ (hw _ (List.mem_of_getElem? (i := 133) rfl)))) (mvT hZ (hw _ (List.mem_of_getElem? (i := 133) rfl))) (mvT hZ (hw _ (List.mem_of_getElem? (i := 131) rfl))) (by decide) (backOf (W := 0) (rm_inf l Z aT hw [] a0 a1 g1 h0 n0 Z0 hp2 hp3 hp4 hp10 hg1) hZ (hw _ (List.mem_of_getElem? (i := 134) rfl)) (hw _ (List.mem_of_getElem? (i := 90) rfl)) (by decide) (by decide)) q361a q361c (g := (mkF m 2 #[.val (.ref a0), .val (.int ct), .val (.ref a1)] [(.ref a1), (.ref a0)])) rfl (by rw [hml]; rfl) (Steps.refl _) (argsL := [(.ref a1)]) (rest := []) (lenOf pd10 rfl) rfl (by show 2 * 0 + _ ≤ _; exact Nat.le_of_eq rfl) (hb hby d_psa_2) (fun _ _ => ⟨rfl, e0, (by decide : 0 + 0 ≤ _), (by decide : 0 + 0 ≤ _)⟩)
  dsimp only [Pt.U, Pt.locs, Pt.cells, Pt.slots] at X361 l361 y361 z361 st361 hQ361
  subst l361 y361 z361
  obtain ⟨rfl, N361q, eq361⟩ := hQ361
  have N361 := Fr.app N0 N361q
  refine own_tr st361 ?_
  show own_Got p e below _ T361 (mkF m 5 #[.val (.ref a0), .val (.int ct), .val (.ref a1)] [])
  refine g_aloadN X361 hx hby d_psa_5 rfl rfl (rfl : 5 + 1 = 6) ?_
  refine g_aloadN X361 hx hby d_psa_6 rfl rfl (rfl : 6 + 1 = 7) ?_
  obtain ⟨T362, X362, e362, st362⟩ := getF X361 hx hZ hown (host := "") (Or.inl (hw _ (List.mem_of_getElem? (i := 94) rfl))) Via.refl eq361 hp1 (g := (mkF m 7 #[.val (.ref a0), .val (.int ct), .val (.ref a1)] [(.ref a0), (.ref a1)])) rfl rfl (hb hby d_psa_7)
  refine own_go st362 ?_
  show own_Got p e below _ T362 (mkF m 10 #[.val (.ref a0), .val (.int ct), .val (.ref a1)] [(.ref vb), (.ref a1)])
  refine g_iloadN X362 hx hby d_psa_10 rfl (rfl : 10 + 1 = 11) ?_
  refine g_aloadN X362 hx hby d_psa_11 rfl rfl (rfl : 11 + 1 = 12) ?_
  obtain ⟨T363, X363, e363, st363⟩ := getF X362 hx hZ hown (host := "") (Or.inl (hw _ (List.mem_of_getElem? (i := 96) rfl))) Via.refl e362 hp2 (g := (mkF m 12 #[.val (.ref a0), .val (.int ct), .val (.ref a1)] [(.ref a0), (.int ct), (.ref vb), (.ref a1)])) rfl rfl (hb hby d_psa_12)
  refine own_go st363 ?_
  show own_Got p e below _ T363 (mkF m 15 #[.val (.ref a0), .val (.int ct), .val (.ref a1)] [(.int (0 : Int32)), (.int ct), (.ref vb), (.ref a1)])
  obtain ⟨cq364, kq364, q364a, q364b, q364c⟩ := isOf hZ e363 hp3
  obtain ⟨_, _, ⟨T364, L364, k364, n364⟩, -, X364, ⟨Lc364, hQ364, l364, y364, z364⟩, st364⟩ := X363.virtualBack hx (y := (⟨"java/lang/String", "getBytes", "([BIB)V"⟩ : MethodName)) (z := (⟨"java/lang/String", "getBytes", "([BIB)V"⟩ : MethodName)) hown (mvT hZ (hw _ (List.mem_of_getElem? (i := 136) rfl))) (mvT hZ (hw _ (List.mem_of_getElem? (i := 137) rfl))) (notFace_of_selects (args := #[]) (mvT hZ (hw _ (List.mem_of_getElem? (i := 139) rfl)))) (mvT hZ (hw _ (List.mem_of_getElem? (i := 139) rfl))) (mvT hZ (hw _ (List.mem_of_getElem? (i := 138) rfl))) (by decide) (backOf (W := 0) (rm_gby l Z aT hw [] a1 vb ct ob kb n vs kv vv g1 h0 n0 Z0 hp3 hp4 hp5 hp6 hp7 hp8 hp9 hp10 hg1 hbd hl16) hZ (hw _ (List.mem_of_getElem? (i := 140) rfl)) (hw _ (List.mem_of_getElem? (i := 9) rfl)) (by decide) (by decide)) q364a q364c (g := (mkF m 15 #[.val (.ref a0), .val (.int ct), .val (.ref a1)] [(.int (0 : Int32)), (.int ct), (.ref vb), (.ref a1)])) rfl (by rw [hml]; rfl) (Steps.refl _) (argsL := [(.ref vb), (.int ct), (.int (0 : Int32))]) (rest := []) (lenOf pd11 rfl) rfl (by show 2 * 0 + _ ≤ _; exact Nat.le_of_eq rfl) (hb hby d_psa_15) (fun _ _ => ⟨rfl, e363, (by decide : 0 + 0 ≤ _), (by decide : 0 + 0 ≤ _)⟩)
  dsimp only [Pt.U, Pt.locs, Pt.cells, Pt.slots] at X364 l364 y364 z364 st364 hQ364
  subst l364 y364 z364
  obtain ⟨vz_364, rfl, N364q, K364, q364_0, q364_1, q364_2⟩ := hQ364
  have N364 := Fr.app N361 N364q
  have Z364 : n0 ≤ T364.heap.size := Nat.le_trans Z0 K364.1
  have KC364 : Keep h0 T364.heap [vb] := (Keep.refl h0 [vb]).trans K364 (allS (Or.inl (List.mem_of_getElem? (i := 0) rfl)) all0)
  refine own_tr st364 ?_
  show own_Got p e below _ T364 (mkF m 18 #[.val (.ref a0), .val (.int ct), .val (.ref a1)] [])
  refine own_retV X364 hx hby hlk hrt d_psa_18 (by decide) (by decide) ?_
  show Q_psa Z a0 ct a1 ob kb n vs vb kv vv g1 h0 n0 _ T364.heap _
  exact ⟨vz_364, rfl, N364, KC364, q364_0, q364_1, q364_2⟩
theorem d_aps_0 : decode jdk_68_method_22_code 0 = .ok (.aload_n 1, 1) := by decide +kernel
theorem d_aps_1 : decode jdk_68_method_22_code 1 = .ok (.ifnonnull 8, 3) := by decide +kernel
theorem d_aps_9 : decode jdk_68_method_22_code 9 = .ok (.aload_n 1, 1) := by decide +kernel
theorem d_aps_10 : decode jdk_68_method_22_code 10 = .ok (.invokevirtual 32, 3) := by decide +kernel
theorem d_aps_13 : decode jdk_68_method_22_code 13 = .ok (.istore_n 2, 1) := by decide +kernel
theorem d_aps_14 : decode jdk_68_method_22_code 14 = .ok (.aload_n 0, 1) := by decide +kernel
theorem d_aps_15 : decode jdk_68_method_22_code 15 = .ok (.aload_n 0, 1) := by decide +kernel
theorem d_aps_16 : decode jdk_68_method_22_code 16 = .ok (.getfield 79, 3) := by decide +kernel
theorem d_aps_19 : decode jdk_68_method_22_code 19 = .ok (.iload_n 2, 1) := by decide +kernel
theorem d_aps_20 : decode jdk_68_method_22_code 20 = .ok (.iadd, 1) := by decide +kernel
theorem d_aps_21 : decode jdk_68_method_22_code 21 = .ok (.invokevirtual 100, 3) := by decide +kernel
theorem d_aps_24 : decode jdk_68_method_22_code 24 = .ok (.aload_n 0, 1) := by decide +kernel
theorem d_aps_25 : decode jdk_68_method_22_code 25 = .ok (.aload_n 0, 1) := by decide +kernel
theorem d_aps_26 : decode jdk_68_method_22_code 26 = .ok (.getfield 79, 3) := by decide +kernel
theorem d_aps_29 : decode jdk_68_method_22_code 29 = .ok (.aload_n 1, 1) := by decide +kernel
theorem d_aps_30 : decode jdk_68_method_22_code 30 = .ok (.invokevirtual 208, 3) := by decide +kernel
theorem d_aps_33 : decode jdk_68_method_22_code 33 = .ok (.aload_n 0, 1) := by decide +kernel
theorem d_aps_34 : decode jdk_68_method_22_code 34 = .ok (.dup, 1) := by decide +kernel
theorem d_aps_35 : decode jdk_68_method_22_code 35 = .ok (.getfield 79, 3) := by decide +kernel
theorem d_aps_38 : decode jdk_68_method_22_code 38 = .ok (.iload_n 2, 1) := by decide +kernel
theorem d_aps_39 : decode jdk_68_method_22_code 39 = .ok (.iadd, 1) := by decide +kernel
theorem d_aps_40 : decode jdk_68_method_22_code 40 = .ok (.putfield 79, 3) := by decide +kernel
theorem d_aps_43 : decode jdk_68_method_22_code 43 = .ok (.aload_n 0, 1) := by decide +kernel
theorem d_aps_44 : decode jdk_68_method_22_code 44 = .ok (.areturn, 1) := by decide +kernel
theorem pd12 : parseMethodDescriptor "()I" = some ⟨[], some .int⟩ := by decide +kernel
theorem pd13 : parseMethodDescriptor "(ILjava/lang/String;)V" = some ⟨[.int, (.object "java/lang/String")], none⟩ := by decide +kernel
theorem ef_aps (m : MethodId) (a0 : Addr) (a1 : Addr) : entryFrame m #[(.ref a0), (.ref a1)] 3 = mkF m 0 #[.val (.ref a0), .val (.ref a1), .unset] [] := by first | (simp [entryFrame, mkF, argsToLocals, Value.category]; done) | rfl
def Q_aps (Z : State) (a0 : Addr) (a1 : Addr) (ob : Addr) (kb : ClassId) (n : Int32) (vs : List Value) (vb : Addr) (kv : ClassId) (vv : List Value) (ct : Int32) (g1 : Int32) (h0 : Heap) (n0 : Nat) (v : Option Value) (h : Heap) (L : List Loc) : Prop := ∃ (vz : List Value), v = some (.ref a0) ∧ Fr n0 L ∧ Keep h0 h [a0, vb] ∧ Exa Z h a0 "java/lang/StringBuilder" ∧ Fld Z h a0 "java/lang/AbstractStringBuilder" "value" "[B" (.ref vb) ∧ Fld Z h a0 "java/lang/AbstractStringBuilder" "coder" "B" (.int (0 : Int32)) ∧ Fld Z h a0 "java/lang/AbstractStringBuilder" "count" "I" (.int (ct + n)) ∧ Exa Z h vb "[B" ∧ Arv Z h vb kv .byte (16 : Int32) vz (.int (0 : Int32)) ∧ vz.length = 16
set_option maxRecDepth 65536 in
set_option maxHeartbeats 40000000 in
theorem rm_aps (l : Launch) (Z : State) (aT : Array Value) (hw : ∀ d ∈ tables_1, d.before aT Z = true) (ws : List Jvm.Cond) (a0 : Addr) (a1 : Addr) (ob : Addr) (kb : ClassId) (n : Int32) (vs : List Value) (vb : Addr) (kv : ClassId) (vv : List Value) (ct : Int32) (g1 : Int32) (h0 : Heap) (n0 : Nat) (Z0 : n0 ≤ h0.size) (hp0 : Exa Z h0 a0 "java/lang/StringBuilder") (hp1 : Fld Z h0 a0 "java/lang/AbstractStringBuilder" "value" "[B" (.ref vb)) (hp2 : Fld Z h0 a0 "java/lang/AbstractStringBuilder" "coder" "B" (.int (0 : Int32))) (hp3 : Fld Z h0 a0 "java/lang/AbstractStringBuilder" "count" "I" (.int ct)) (hp4 : Exa Z h0 a1 "java/lang/String") (hp5 : Fld Z h0 a1 "java/lang/String" "coder" "B" (.int (0 : Int32))) (hp6 : Fld Z h0 a1 "java/lang/String" "value" "[B" (.ref ob)) (hp7 : Arv Z h0 ob kb .byte n vs (.int (0 : Int32))) (hp8 : Exa Z h0 vb "[B") (hp9 : Arv Z h0 vb kv .byte (16 : Int32) vv (.int (0 : Int32))) (hp10 : n0 ≤ vb) (hp11 : n0 ≤ a0) (hp12 : a0 ≠ vb) (hp13 : a0 ≠ a1) (hp14 : Sta Z h0 "java/lang/String" "COMPACT_STRINGS" "Z" (.int g1)) (hg1 : ¬ (g1 = (0 : Int32))) (hbd : own_bnd ct n) (hl16 : vv.length = 16) :
    MetFree l (⟨"java/lang/AbstractStringBuilder", "append", "(Ljava/lang/String;)Ljava/lang/AbstractStringBuilder;"⟩ : MethodName) (head1 (Jvm.Cond.code (⟨"java/lang/AbstractStringBuilder", "append", "(Ljava/lang/String;)Ljava/lang/AbstractStringBuilder;"⟩ : MethodName) jdk_68_method_22_code 3 (some (.object "java/lang/AbstractStringBuilder")) :: ws) ({ frames := 3, cells := 0, slots := 0, locals := 56 } : Room)) (fun a U => a = #[(.ref a0), (.ref a1)] ∧ Z.Warmed39 U.vm ∧ U.heap = h0) (fun _ _ _ _ _ => True) (fun _ U o U' => ∃ v L, o = .returned v ∧ Q_aps Z a0 a1 ob kb n vs vb kv vv ct g1 h0 n0 v U'.heap L ∧ FrameEnd U o U' L ({ frames := 3, cells := 0, slots := 0, locals := 56 } : Room).cells ({ frames := 3, cells := 0, slots := 0, locals := 56 } : Room).slots) := by
  refine MetFree.of_bodySF (plainFor_of_name pn6) hisR ?_
  intro p e s m args below meth c s₁ Bd hml0 hP hK
  obtain ⟨rfl, hZ, hh⟩ := hP
  have hx := Bd.exec
  have hby := Bd.bytes
  have hml : c.maxLocals = 3 := hml0
  have hown : s.vm.findClass "java/lang/AbstractStringBuilder" = some m.cls := findClass_of_methodNamed Bd.named
  have hnm := (name_of_methodNamed Bd.named Bd.method).1
  have hlk := Bd.notSynchronized
  have hrt := Bd.returns
  have X0 : Stand p l e ({ frames := 3, cells := 0, slots := 0, locals := 56 } : Room) s m #[(.ref a0), (.ref a1)] below meth c s₁ [] 0 0 := Stand.of_body Bd
  have e0 : s₁.heap = h0 := by rw [← hh, Bd.state]; rfl
  have N0 := Fr.nil n0
  refine own_cast (P := own_End s (Q_aps Z a0 a1 ob kb n vs vb kv vv ct g1 h0 n0) ({ frames := 3, cells := 0, slots := 0, locals := 56 } : Room).cells ({ frames := 3, cells := 0, slots := 0, locals := 56 } : Room).slots) (ef_aps m a0 a1) ?_
  refine g_aloadN X0 hx hby d_aps_0 rfl rfl (rfl : 0 + 1 = 1) ?_
  refine g_innT X0 hx hby d_aps_1 (by decide) (pc' := 9) (by decide) ?_
  refine g_aloadN X0 hx hby d_aps_9 rfl rfl (rfl : 9 + 1 = 10) ?_
  obtain ⟨cq365, kq365, q365a, q365b, q365c⟩ := isOf hZ e0 hp4
  obtain ⟨_, _, ⟨T365, L365, k365, n365⟩, -, X365, ⟨Lc365, hQ365, l365, y365, z365⟩, st365⟩ := X0.virtualBack hx (y := (⟨"java/lang/String", "length", "()I"⟩ : MethodName)) (z := (⟨"java/lang/String", "length", "()I"⟩ : MethodName)) hown (mvT hZ (hw _ (List.mem_of_getElem? (i := 108) rfl))) (mvT hZ (hw _ (List.mem_of_getElem? (i := 109) rfl))) (notFace_of_selects (args := #[]) (mvT hZ (hw _ (List.mem_of_getElem? (i := 111) rfl)))) (mvT hZ (hw _ (List.mem_of_getElem? (i := 111) rfl))) (mvT hZ (hw _ (List.mem_of_getElem? (i := 110) rfl))) (by decide) (backOf (W := 0) (rm_len l Z aT hw [] a1 ob kb n vs g1 h0 n0 Z0 hp4 hp5 hp6 hp7 hp14 hg1) hZ (hw _ (List.mem_of_getElem? (i := 112) rfl)) (hw _ (List.mem_of_getElem? (i := 9) rfl)) (by decide) (by decide)) q365a q365c (g := (mkF m 10 #[.val (.ref a0), .val (.ref a1), .unset] [(.ref a1)])) rfl (by rw [hml]; rfl) (Steps.refl _) (argsL := []) (rest := []) (lenOf pd12 rfl) rfl (by show 2 * 0 + _ ≤ _; exact Nat.le_of_eq rfl) (hb hby d_aps_10) (fun _ _ => ⟨rfl, e0, (by decide : 0 + 0 ≤ _), (by decide : 0 + 0 ≤ _)⟩)
  dsimp only [Pt.U, Pt.locs, Pt.cells, Pt.slots] at X365 l365 y365 z365 st365 hQ365
  subst l365 y365 z365
  obtain ⟨rfl, N365q, eq365⟩ := hQ365
  have N365 := Fr.app N0 N365q
  refine own_tr st365 ?_
  show own_Got p e below _ T365 (mkF m 13 #[.val (.ref a0), .val (.ref a1), .unset] [(.int n)])
  refine g_istoreN X365 hx hby #[.val (.ref a0), .val (.ref a1), .val (.int n)] d_aps_13 rfl (rfl : 13 + 1 = 14) ?_
  refine g_aloadN X365 hx hby d_aps_14 rfl rfl (rfl : 14 + 1 = 15) ?_
  refine g_aloadN X365 hx hby d_aps_15 rfl rfl (rfl : 15 + 1 = 16) ?_
  obtain ⟨T366, X366, e366, st366⟩ := getF X365 hx hZ hown (host := "") (Or.inl (hw _ (List.mem_of_getElem? (i := 118) rfl))) Via.refl eq365 hp3 (g := (mkF m 16 #[.val (.ref a0), .val (.ref a1), .val (.int n)] [(.ref a0), (.ref a0)])) rfl rfl (hb hby d_aps_16)
  refine own_go st366 ?_
  show own_Got p e below _ T366 (mkF m 19 #[.val (.ref a0), .val (.ref a1), .val (.int n)] [(.int ct), (.ref a0)])
  refine g_iloadN X366 hx hby d_aps_19 rfl (rfl : 19 + 1 = 20) ?_
  refine g_iadd X366 hx hby d_aps_20 (rfl : 20 + 1 = 21) ?_
  obtain ⟨cq367, kq367, q367a, q367b, q367c⟩ := isOf hZ e366 hp0
  obtain ⟨_, _, ⟨T367, L367, k367, n367⟩, -, X367, ⟨Lc367, hQ367, l367, y367, z367⟩, st367⟩ := X366.virtualBack hx (y := (⟨"java/lang/AbstractStringBuilder", "ensureCapacityInternal", "(I)V"⟩ : MethodName)) (z := (⟨"java/lang/AbstractStringBuilder", "ensureCapacityInternal", "(I)V"⟩ : MethodName)) hown (mvT hZ (hw _ (List.mem_of_getElem? (i := 120) rfl))) (own_declares (mvT hZ (hw _ (List.mem_of_getElem? (i := 121) rfl))) (mvT hZ (hw _ (List.mem_of_getElem? (i := 124) rfl)))) (notFace_of_selects (args := #[]) (mvT hZ (hw _ (List.mem_of_getElem? (i := 123) rfl)))) (mvT hZ (hw _ (List.mem_of_getElem? (i := 123) rfl))) (mvT hZ (hw _ (List.mem_of_getElem? (i := 121) rfl))) (by decide) (backOf (W := 0) (rm_ens l Z aT hw [] a0 (ct + n) vb kv vv h0 n0 Z0 hp1 hp9 hp2 (own_cap hbd : ¬ ((0 : Int32) < ((ct + n) - (16 : Int32))))) hZ (hw _ (List.mem_of_getElem? (i := 124) rfl)) (hw _ (List.mem_of_getElem? (i := 90) rfl)) (by decide) (by decide)) q367a q367c (g := (mkF m 21 #[.val (.ref a0), .val (.ref a1), .val (.int n)] [(.int (ct + n)), (.ref a0)])) rfl (by rw [hml]; rfl) (Steps.refl _) (argsL := [(.int (ct + n))]) (rest := []) (lenOf pd9 rfl) rfl (by show 2 * 0 + _ ≤ _; exact Nat.le_of_eq rfl) (hb hby d_aps_21) (fun _ _ => ⟨rfl, e366, (by decide : 0 + 0 ≤ _), (by decide : 0 + 0 ≤ _)⟩)
  dsimp only [Pt.U, Pt.locs, Pt.cells, Pt.slots] at X367 l367 y367 z367 st367 hQ367
  subst l367 y367 z367
  obtain ⟨rfl, N367q, eq367⟩ := hQ367
  have N367 := Fr.app N365 N367q
  refine own_tr st367 ?_
  show own_Got p e below _ T367 (mkF m 24 #[.val (.ref a0), .val (.ref a1), .val (.int n)] [])
  refine g_aloadN X367 hx hby d_aps_24 rfl rfl (rfl : 24 + 1 = 25) ?_
  refine g_aloadN X367 hx hby d_aps_25 rfl rfl (rfl : 25 + 1 = 26) ?_
  obtain ⟨T368, X368, e368, st368⟩ := getF X367 hx hZ hown (host := "") (Or.inl (hw _ (List.mem_of_getElem? (i := 118) rfl))) Via.refl eq367 hp3 (g := (mkF m 26 #[.val (.ref a0), .val (.ref a1), .val (.int n)] [(.ref a0), (.ref a0)])) rfl rfl (hb hby d_aps_26)
  refine own_go st368 ?_
  show own_Got p e below _ T368 (mkF m 29 #[.val (.ref a0), .val (.ref a1), .val (.int n)] [(.int ct), (.ref a0)])
  refine g_aloadN X368 hx hby d_aps_29 rfl rfl (rfl : 29 + 1 = 30) ?_
  obtain ⟨cq369, kq369, q369a, q369b, q369c⟩ := isOf hZ e368 hp0
  obtain ⟨_, _, ⟨T369, L369, k369, n369⟩, -, X369, ⟨Lc369, hQ369, l369, y369, z369⟩, st369⟩ := X368.virtualBack hx (y := (⟨"java/lang/AbstractStringBuilder", "putStringAt", "(ILjava/lang/String;)V"⟩ : MethodName)) (z := (⟨"java/lang/AbstractStringBuilder", "putStringAt", "(ILjava/lang/String;)V"⟩ : MethodName)) hown (mvT hZ (hw _ (List.mem_of_getElem? (i := 125) rfl))) (own_declares (mvT hZ (hw _ (List.mem_of_getElem? (i := 126) rfl))) (mvT hZ (hw _ (List.mem_of_getElem? (i := 129) rfl)))) (notFace_of_selects (args := #[]) (mvT hZ (hw _ (List.mem_of_getElem? (i := 128) rfl)))) (mvT hZ (hw _ (List.mem_of_getElem? (i := 128) rfl))) (mvT hZ (hw _ (List.mem_of_getElem? (i := 126) rfl))) (by decide) (backOf (W := 0) (rm_psa l Z aT hw [] a0 ct a1 ob kb n vs vb kv vv g1 h0 n0 Z0 hp0 hp1 hp2 hp4 hp5 hp6 hp7 hp8 hp9 hp10 hp14 hg1 hbd hl16) hZ (hw _ (List.mem_of_getElem? (i := 129) rfl)) (hw _ (List.mem_of_getElem? (i := 90) rfl)) (by decide) (by decide)) q369a q369c (g := (mkF m 30 #[.val (.ref a0), .val (.ref a1), .val (.int n)] [(.ref a1), (.int ct), (.ref a0)])) rfl (by rw [hml]; rfl) (Steps.refl _) (argsL := [(.int ct), (.ref a1)]) (rest := []) (lenOf pd13 rfl) rfl (by show 2 * 0 + _ ≤ _; exact Nat.le_of_eq rfl) (hb hby d_aps_30) (fun _ _ => ⟨rfl, e368, (by decide : 0 + 0 ≤ _), (by decide : 0 + 0 ≤ _)⟩)
  dsimp only [Pt.U, Pt.locs, Pt.cells, Pt.slots] at X369 l369 y369 z369 st369 hQ369
  subst l369 y369 z369
  obtain ⟨vz_369, rfl, N369q, K369, q369_0, q369_1, q369_2⟩ := hQ369
  have N369 := Fr.app N367 N369q
  have Z369 : n0 ≤ T369.heap.size := Nat.le_trans Z0 K369.1
  have KC369 : Keep h0 T369.heap [a0, vb] := (Keep.refl h0 [a0, vb]).trans K369 (allS (Or.inl (List.mem_of_getElem? (i := 1) rfl)) all0)
  refine own_tr st369 ?_
  show own_Got p e below _ T369 (mkF m 33 #[.val (.ref a0), .val (.ref a1), .val (.int n)] [])
  refine g_aloadN X369 hx hby d_aps_33 rfl rfl (rfl : 33 + 1 = 34) ?_
  refine g_dup X369 hx hby d_aps_34 rfl (rfl : 34 + 1 = 35) ?_
  have f370 : Fld Z T369.heap a0 "java/lang/AbstractStringBuilder" "count" "I" (.int ct) := (Fld.keep hp3 K369 (ninS hp12 nin0))
  obtain ⟨T371, X371, e371, st371⟩ := getF X369 hx hZ hown (host := "") (Or.inl (hw _ (List.mem_of_getElem? (i := 118) rfl))) Via.refl rfl f370 (g := (mkF m 35 #[.val (.ref a0), .val (.ref a1), .val (.int n)] [(.ref a0), (.ref a0)])) rfl rfl (hb hby d_aps_35)
  refine own_go st371 ?_
  show own_Got p e below _ T371 (mkF m 38 #[.val (.ref a0), .val (.ref a1), .val (.int n)] [(.int ct), (.ref a0)])
  refine g_iloadN X371 hx hby d_aps_38 rfl (rfl : 38 + 1 = 39) ?_
  refine g_iadd X371 hx hby d_aps_39 (rfl : 39 + 1 = 40) ?_
  have f372 : Exa Z T369.heap a0 "java/lang/StringBuilder" := (Exa.keep hp0 K369)
  obtain ⟨T373, h373, X373, e373, W373, st373⟩ := putF X371 hx hZ hown (host := "") (Or.inl (hw _ (List.mem_of_getElem? (i := 118) rfl))) Via.refl e371 f370 f372 (Or.inl (hw _ (List.mem_of_getElem? (i := 119) rfl))) (hw _ (List.mem_of_getElem? (i := 81) rfl)) (ty := .int) (by decide) rfl rfl (g := (mkF m 40 #[.val (.ref a0), .val (.ref a1), .val (.int n)] [(.int (ct + n)), (.ref a0)])) rfl rfl (hb hby d_aps_40)
  have Z373 : n0 ≤ h373.size := Nat.le_trans Z369 (Keep.of_wr W373).1
  have N373 := Fr.snoc X373 N369 hp11
  have K373 : Keep h0 h373 [a0, vb] := KC369.wr W373 (Or.inl (List.mem_of_getElem? (i := 0) rfl))
  have f373 : Fld Z h373 a0 "java/lang/AbstractStringBuilder" "count" "I" (.int (ct + n)) := Fld.same W373 f370
  refine own_go st373 ?_
  show own_Got p e below _ T373 (mkF m 43 #[.val (.ref a0), .val (.ref a1), .val (.int n)] [])
  refine g_aloadN X373 hx hby d_aps_43 rfl rfl (rfl : 43 + 1 = 44) ?_
  have f374 : Exa Z h373 a0 "java/lang/StringBuilder" := (Exa.wr W373 f372)
  have f375 : Fld Z h373 a0 "java/lang/AbstractStringBuilder" "value" "[B" (.ref vb) := (Fld.other W373 (Fld.keep hp1 K369 (ninS hp12 nin0)) (Or.inr (slot_ne (Or.inl (hw _ (List.mem_of_getElem? (i := 95) rfl))) (Or.inl (hw _ (List.mem_of_getElem? (i := 119) rfl))) (by decide) (t := (.array .byte)) (t' := .int) (by decide) (by decide))))
  have f376 : Fld Z h373 a0 "java/lang/AbstractStringBuilder" "coder" "B" (.int (0 : Int32)) := (Fld.other W373 (Fld.keep hp2 K369 (ninS hp12 nin0)) (Or.inr (slot_ne (Or.inl (hw _ (List.mem_of_getElem? (i := 97) rfl))) (Or.inl (hw _ (List.mem_of_getElem? (i := 119) rfl))) (by decide) (t := .byte) (t' := .int) (by decide) (by decide))))
  have f377 : Exa Z h373 vb "[B" := (Exa.wr W373 q369_0)
  have f378 : Arv Z h373 vb kv .byte (16 : Int32) vz_369 (.int (0 : Int32)) := (Arv.other q369_1 W373 (Ne.symm hp12))
  refine own_retR X373 hx hby hlk hrt rfl d_aps_44 (by decide) (by decide) rfl ?_
  show Q_aps Z a0 a1 ob kb n vs vb kv vv ct g1 h0 n0 _ T373.heap _
  rw [e373]
  exact ⟨vz_369, rfl, N373, K373, f374, f375, f376, f373, f377, f378, q369_2⟩
theorem d_sbs_0 : decode jdk_67_method_7_code 0 = .ok (.aload_n 0, 1) := by decide +kernel
theorem d_sbs_1 : decode jdk_67_method_7_code 1 = .ok (.aload_n 1, 1) := by decide +kernel
theorem d_sbs_2 : decode jdk_67_method_7_code 2 = .ok (.invokespecial 29, 3) := by decide +kernel
theorem d_sbs_5 : decode jdk_67_method_7_code 5 = .ok (.pop, 1) := by decide +kernel
theorem d_sbs_6 : decode jdk_67_method_7_code 6 = .ok (.aload_n 0, 1) := by decide +kernel
theorem d_sbs_7 : decode jdk_67_method_7_code 7 = .ok (.areturn, 1) := by decide +kernel
theorem pd14 : parseMethodDescriptor "(Ljava/lang/String;)Ljava/lang/AbstractStringBuilder;" = some ⟨[(.object "java/lang/String")], some (.object "java/lang/AbstractStringBuilder")⟩ := by decide +kernel
theorem ef_sbs (m : MethodId) (a0 : Addr) (a1 : Addr) : entryFrame m #[(.ref a0), (.ref a1)] 2 = mkF m 0 #[.val (.ref a0), .val (.ref a1)] [] := by first | (simp [entryFrame, mkF, argsToLocals, Value.category]; done) | rfl
def Q_sbs (Z : State) (a0 : Addr) (a1 : Addr) (ob : Addr) (kb : ClassId) (n : Int32) (vs : List Value) (vb : Addr) (kv : ClassId) (vv : List Value) (ct : Int32) (g1 : Int32) (h0 : Heap) (n0 : Nat) (v : Option Value) (h : Heap) (L : List Loc) : Prop := ∃ (vz : List Value), v = some (.ref a0) ∧ Fr n0 L ∧ Keep h0 h [a0, vb] ∧ Exa Z h a0 "java/lang/StringBuilder" ∧ Fld Z h a0 "java/lang/AbstractStringBuilder" "value" "[B" (.ref vb) ∧ Fld Z h a0 "java/lang/AbstractStringBuilder" "coder" "B" (.int (0 : Int32)) ∧ Fld Z h a0 "java/lang/AbstractStringBuilder" "count" "I" (.int (ct + n)) ∧ Exa Z h vb "[B" ∧ Arv Z h vb kv .byte (16 : Int32) vz (.int (0 : Int32)) ∧ vz.length = 16
set_option maxRecDepth 65536 in
set_option maxHeartbeats 40000000 in
theorem rm_sbs (l : Launch) (Z : State) (aT : Array Value) (hw : ∀ d ∈ tables_1, d.before aT Z = true) (ws : List Jvm.Cond) (a0 : Addr) (a1 : Addr) (ob : Addr) (kb : ClassId) (n : Int32) (vs : List Value) (vb : Addr) (kv : ClassId) (vv : List Value) (ct : Int32) (g1 : Int32) (h0 : Heap) (n0 : Nat) (Z0 : n0 ≤ h0.size) (hp0 : Exa Z h0 a0 "java/lang/StringBuilder") (hp1 : Fld Z h0 a0 "java/lang/AbstractStringBuilder" "value" "[B" (.ref vb)) (hp2 : Fld Z h0 a0 "java/lang/AbstractStringBuilder" "coder" "B" (.int (0 : Int32))) (hp3 : Fld Z h0 a0 "java/lang/AbstractStringBuilder" "count" "I" (.int ct)) (hp4 : Exa Z h0 a1 "java/lang/String") (hp5 : Fld Z h0 a1 "java/lang/String" "coder" "B" (.int (0 : Int32))) (hp6 : Fld Z h0 a1 "java/lang/String" "value" "[B" (.ref ob)) (hp7 : Arv Z h0 ob kb .byte n vs (.int (0 : Int32))) (hp8 : Exa Z h0 vb "[B") (hp9 : Arv Z h0 vb kv .byte (16 : Int32) vv (.int (0 : Int32))) (hp10 : n0 ≤ vb) (hp11 : n0 ≤ a0) (hp12 : a0 ≠ vb) (hp13 : a0 ≠ a1) (hp14 : Sta Z h0 "java/lang/String" "COMPACT_STRINGS" "Z" (.int g1)) (hg1 : ¬ (g1 = (0 : Int32))) (hbd : own_bnd ct n) (hl16 : vv.length = 16) :
    MetFree l (⟨"java/lang/StringBuilder", "append", "(Ljava/lang/String;)Ljava/lang/StringBuilder;"⟩ : MethodName) (head1 (Jvm.Cond.code (⟨"java/lang/StringBuilder", "append", "(Ljava/lang/String;)Ljava/lang/StringBuilder;"⟩ : MethodName) jdk_67_method_7_code 2 (some (.object "java/lang/StringBuilder")) :: ws) ({ frames := 4, cells := 0, slots := 0, locals := 70 } : Room)) (fun a U => a = #[(.ref a0), (.ref a1)] ∧ Z.Warmed39 U.vm ∧ U.heap = h0) (fun _ _ _ _ _ => True) (fun _ U o U' => ∃ v L, o = .returned v ∧ Q_sbs Z a0 a1 ob kb n vs vb kv vv ct g1 h0 n0 v U'.heap L ∧ FrameEnd U o U' L ({ frames := 4, cells := 0, slots := 0, locals := 70 } : Room).cells ({ frames := 4, cells := 0, slots := 0, locals := 70 } : Room).slots) := by
  refine MetFree.of_bodySF (plainFor_of_name pn7) hisR ?_
  intro p e s m args below meth c s₁ Bd hml0 hP hK
  obtain ⟨rfl, hZ, hh⟩ := hP
  have hx := Bd.exec
  have hby := Bd.bytes
  have hml : c.maxLocals = 2 := hml0
  have hown : s.vm.findClass "java/lang/StringBuilder" = some m.cls := findClass_of_methodNamed Bd.named
  have hnm := (name_of_methodNamed Bd.named Bd.method).1
  have hlk := Bd.notSynchronized
  have hrt := Bd.returns
  have X0 : Stand p l e ({ frames := 4, cells := 0, slots := 0, locals := 70 } : Room) s m #[(.ref a0), (.ref a1)] below meth c s₁ [] 0 0 := Stand.of_body Bd
  have e0 : s₁.heap = h0 := by rw [← hh, Bd.state]; rfl
  have N0 := Fr.nil n0
  refine own_cast (P := own_End s (Q_sbs Z a0 a1 ob kb n vs vb kv vv ct g1 h0 n0) ({ frames := 4, cells := 0, slots := 0, locals := 70 } : Room).cells ({ frames := 4, cells := 0, slots := 0, locals := 70 } : Room).slots) (ef_sbs m a0 a1) ?_
  refine g_aloadN X0 hx hby d_sbs_0 rfl rfl (rfl : 0 + 1 = 1) ?_
  refine g_aloadN X0 hx hby d_sbs_1 rfl rfl (rfl : 1 + 1 = 2) ?_
  obtain ⟨_, _, ⟨T379, L379, k379, n379⟩, -, X379, ⟨Lc379, hQ379, l379, y379, z379⟩, st379⟩ := own_superBack X0 hx hZ (y := (⟨"java/lang/AbstractStringBuilder", "append", "(Ljava/lang/String;)Ljava/lang/AbstractStringBuilder;"⟩ : MethodName)) hown (hw _ (List.mem_of_getElem? (i := 103) rfl)) (hw _ (List.mem_of_getElem? (i := 104) rfl)) (hw _ (List.mem_of_getElem? (i := 105) rfl)) (by decide) (by decide) (backOf (W := 0) (rm_aps l Z aT hw [] a0 a1 ob kb n vs vb kv vv ct g1 h0 n0 Z0 hp0 hp1 hp2 hp3 hp4 hp5 hp6 hp7 hp8 hp9 hp10 hp11 hp12 hp13 hp14 hg1 hbd hl16) hZ (hw _ (List.mem_of_getElem? (i := 107) rfl)) (hw _ (List.mem_of_getElem? (i := 90) rfl)) (by decide) (by decide)) e0 (Ins.self hp0) (g := (mkF m 2 #[.val (.ref a0), .val (.ref a1)] [(.ref a1), (.ref a0)])) rfl (by rw [hml]; rfl) (hw _ (List.mem_of_getElem? (i := 107) rfl)) (argsL := [(.ref a1)]) (rest := []) (lenOf pd14 rfl) rfl (by show 2 * 0 + _ ≤ _; exact Nat.le_of_eq rfl) (hb hby d_sbs_2) (fun _ _ => ⟨rfl, e0, (by decide : 0 + 0 ≤ _), (by decide : 0 + 0 ≤ _)⟩)
  dsimp only [Pt.U, Pt.locs, Pt.cells, Pt.slots] at X379 l379 y379 z379 st379 hQ379
  subst l379 y379 z379
  obtain ⟨vz_379, rfl, N379q, K379, q379_0, q379_1, q379_2, q379_3, q379_4, q379_5, q379_6⟩ := hQ379
  have N379 := Fr.app N0 N379q
  have Z379 : n0 ≤ T379.heap.size := Nat.le_trans Z0 K379.1
  have KC379 : Keep h0 T379.heap [a0, vb] := (Keep.refl h0 [a0, vb]).trans K379 (allS (Or.inl (List.mem_of_getElem? (i := 0) rfl)) (allS (Or.inl (List.mem_of_getElem? (i := 1) rfl)) all0))
  refine own_tr st379 ?_
  show own_Got p e below _ T379 (mkF m 5 #[.val (.ref a0), .val (.ref a1)] [(.ref a0)])
  refine g_pop X379 hx hby d_sbs_5 rfl (rfl : 5 + 1 = 6) ?_
  refine g_aloadN X379 hx hby d_sbs_6 rfl rfl (rfl : 6 + 1 = 7) ?_
  refine own_retR X379 hx hby hlk hrt rfl d_sbs_7 (by decide) (by decide) rfl ?_
  show Q_sbs Z a0 a1 ob kb n vs vb kv vv ct g1 h0 n0 _ T379.heap _
  exact ⟨vz_379, rfl, N379, KC379, q379_0, q379_1, q379_2, q379_3, q379_4, q379_5, q379_6⟩
theorem d_al1_0 : decode jdk_68_method_68_code 0 = .ok (.getstatic 18, 3) := by decide +kernel
theorem d_al1_3 : decode jdk_68_method_68_code 3 = .ok (.ifCond .eq 14, 3) := by decide +kernel
theorem d_al1_6 : decode jdk_68_method_68_code 6 = .ok (.aload_n 0, 1) := by decide +kernel
theorem d_al1_7 : decode jdk_68_method_68_code 7 = .ok (.getfield 22, 3) := by decide +kernel
theorem d_al1_10 : decode jdk_68_method_68_code 10 = .ok (.ifCond .ne 7, 3) := by decide +kernel
theorem d_al1_13 : decode jdk_68_method_68_code 13 = .ok (.iconst 1, 1) := by decide +kernel
theorem d_al1_14 : decode jdk_68_method_68_code 14 = .ok (.goto 4, 3) := by decide +kernel
theorem d_al1_18 : decode jdk_68_method_68_code 18 = .ok (.ireturn, 1) := by decide +kernel
theorem ef_al1 (m : MethodId) (a0 : Addr) : entryFrame m #[(.ref a0)] 1 = mkF m 0 #[.val (.ref a0)] [] := by first | (simp [entryFrame, mkF, argsToLocals, Value.category]; done) | rfl
def Q_al1 (Z : State) (a0 : Addr) (g1 : Int32) (h0 : Heap) (n0 : Nat) (v : Option Value) (h : Heap) (L : List Loc) : Prop := v = some (.int (1 : Int32)) ∧ Fr n0 L ∧ h = h0
set_option maxRecDepth 65536 in
set_option maxHeartbeats 40000000 in
theorem rm_al1 (l : Launch) (Z : State) (aT : Array Value) (hw : ∀ d ∈ tables_1, d.before aT Z = true) (ws : List Jvm.Cond) (a0 : Addr) (g1 : Int32) (h0 : Heap) (n0 : Nat) (Z0 : n0 ≤ h0.size) (hp0 : Sta Z h0 "java/lang/String" "COMPACT_STRINGS" "Z" (.int g1)) (hp1 : Fld Z h0 a0 "java/lang/AbstractStringBuilder" "coder" "B" (.int (0 : Int32))) (hg1 : ¬ (g1 = (0 : Int32))) :
    MetFree l (⟨"java/lang/AbstractStringBuilder", "isLatin1", "()Z"⟩ : MethodName) (head1 (Jvm.Cond.code (⟨"java/lang/AbstractStringBuilder", "isLatin1", "()Z"⟩ : MethodName) jdk_68_method_68_code 1 (some .boolean) :: ws) ({ frames := 0, cells := 0, slots := 0, locals := 0 } : Room)) (fun a U => a = #[(.ref a0)] ∧ Z.Warmed39 U.vm ∧ U.heap = h0) (fun _ _ _ _ _ => True) (fun _ U o U' => ∃ v L, o = .returned v ∧ Q_al1 Z a0 g1 h0 n0 v U'.heap L ∧ FrameEnd U o U' L ({ frames := 0, cells := 0, slots := 0, locals := 0 } : Room).cells ({ frames := 0, cells := 0, slots := 0, locals := 0 } : Room).slots) := by
  refine MetFree.of_bodySF (plainFor_of_name pn6) hisR ?_
  intro p e s m args below meth c s₁ Bd hml0 hP hK
  obtain ⟨rfl, hZ, hh⟩ := hP
  have hx := Bd.exec
  have hby := Bd.bytes
  have hml : c.maxLocals = 1 := hml0
  have hown : s.vm.findClass "java/lang/AbstractStringBuilder" = some m.cls := findClass_of_methodNamed Bd.named
  have hnm := (name_of_methodNamed Bd.named Bd.method).1
  have hlk := Bd.notSynchronized
  have hrt := Bd.returns
  have X0 : Stand p l e ({ frames := 0, cells := 0, slots := 0, locals := 0 } : Room) s m #[(.ref a0)] below meth c s₁ [] 0 0 := Stand.of_body Bd
  have e0 : s₁.heap = h0 := by rw [← hh, Bd.state]; rfl
  have N0 := Fr.nil n0
  refine own_cast (P := own_End s (Q_al1 Z a0 g1 h0 n0) ({ frames := 0, cells := 0, slots := 0, locals := 0 } : Room).cells ({ frames := 0, cells := 0, slots := 0, locals := 0 } : Room).slots) (ef_al1 m a0) ?_
  obtain ⟨T380, X380, e380, st380⟩ := getS2 X0 hx hZ hown (host := "") (Or.inl (hw _ (List.mem_of_getElem? (i := 93) rfl))) Via.refl e0 hp0 (g := (mkF m 0 #[.val (.ref a0)] [])) rfl (hb hby d_al1_0)
  refine own_go st380 ?_
  show own_Got p e below _ T380 (mkF m 3 #[.val (.ref a0)] [(.int g1)])
  refine g_ifF X380 hx hby d_al1_3 ((if0 _ _).trans (feq hg1).1) (rfl : 3 + 3 = 6) ?_
  refine g_aloadN X380 hx hby d_al1_6 rfl rfl (rfl : 6 + 1 = 7) ?_
  obtain ⟨T381, X381, e381, st381⟩ := getF X380 hx hZ hown (host := "") (Or.inl (hw _ (List.mem_of_getElem? (i := 96) rfl))) Via.refl e380 hp1 (g := (mkF m 7 #[.val (.ref a0)] [(.ref a0)])) rfl rfl (hb hby d_al1_7)
  refine own_go st381 ?_
  show own_Got p e below _ T381 (mkF m 10 #[.val (.ref a0)] [(.int (0 : Int32))])
  refine g_ifF X381 hx hby d_al1_10 ((if0 _ _).trans (teq (by decide : (0 : Int32) = (0 : Int32))).2) (rfl : 10 + 3 = 13) ?_
  refine g_iconst X381 hx hby (1 : Int32) d_al1_13 (by decide) (rfl : 13 + 1 = 14) ?_
  refine g_goto X381 hx hby d_al1_14 (by decide) (pc' := 18) (by decide) ?_
  refine own_retN X381 hx hby hlk (t := .boolean) hrt (by simp) d_al1_18 (by decide) (by decide) ?_
  show Q_al1 Z a0 g1 h0 n0 _ T381.heap _
  exact ⟨rfl, N0, e381⟩
theorem d_enc_0 : decode jdk_43_method_3_code 0 = .ok (.iload_n 0, 1) := by decide +kernel
theorem d_enc_1 : decode jdk_43_method_3_code 1 = .ok (.sipush 255, 3) := by decide +kernel
theorem d_enc_4 : decode jdk_43_method_3_code 4 = .ok (.if_icmp .gt 7, 3) := by decide +kernel
theorem d_enc_7 : decode jdk_43_method_3_code 7 = .ok (.iconst 1, 1) := by decide +kernel
theorem d_enc_8 : decode jdk_43_method_3_code 8 = .ok (.goto 4, 3) := by decide +kernel
theorem d_enc_12 : decode jdk_43_method_3_code 12 = .ok (.ireturn, 1) := by decide +kernel
theorem ef_enc (m : MethodId)  : entryFrame m #[(.int (47 : Int32))] 1 = mkF m 0 #[.val (.int (47 : Int32))] [] := by first | (simp [entryFrame, mkF, argsToLocals, Value.category]; done) | rfl
def Q_enc (Z : State)  (h0 : Heap) (n0 : Nat) (v : Option Value) (h : Heap) (L : List Loc) : Prop := v = some (.int (1 : Int32)) ∧ Fr n0 L ∧ h = h0
set_option maxRecDepth 65536 in
set_option maxHeartbeats 40000000 in
theorem rm_enc (l : Launch) (Z : State) (aT : Array Value) (hw : ∀ d ∈ tables_1, d.before aT Z = true) (ws : List Jvm.Cond)  (h0 : Heap) (n0 : Nat) (Z0 : n0 ≤ h0.size) :
    MetFree l (⟨"java/lang/StringLatin1", "canEncode", "(C)Z"⟩ : MethodName) (head1 (Jvm.Cond.code (⟨"java/lang/StringLatin1", "canEncode", "(C)Z"⟩ : MethodName) jdk_43_method_3_code 1 (some .boolean) :: ws) ({ frames := 0, cells := 0, slots := 0, locals := 0 } : Room)) (fun a U => a = #[(.int (47 : Int32))] ∧ Z.Warmed39 U.vm ∧ U.heap = h0) (fun _ _ _ _ _ => True) (fun _ U o U' => ∃ v L, o = .returned v ∧ Q_enc Z  h0 n0 v U'.heap L ∧ FrameEnd U o U' L ({ frames := 0, cells := 0, slots := 0, locals := 0 } : Room).cells ({ frames := 0, cells := 0, slots := 0, locals := 0 } : Room).slots) := by
  refine MetFree.of_bodySF (plainFor_of_name pn5) hisR ?_
  intro p e s m args below meth c s₁ Bd hml0 hP hK
  obtain ⟨rfl, hZ, hh⟩ := hP
  have hx := Bd.exec
  have hby := Bd.bytes
  have hml : c.maxLocals = 1 := hml0
  have hown : s.vm.findClass "java/lang/StringLatin1" = some m.cls := findClass_of_methodNamed Bd.named
  have hnm := (name_of_methodNamed Bd.named Bd.method).1
  have hlk := Bd.notSynchronized
  have hrt := Bd.returns
  have X0 : Stand p l e ({ frames := 0, cells := 0, slots := 0, locals := 0 } : Room) s m #[(.int (47 : Int32))] below meth c s₁ [] 0 0 := Stand.of_body Bd
  have e0 : s₁.heap = h0 := by rw [← hh, Bd.state]; rfl
  have N0 := Fr.nil n0
  refine own_cast (P := own_End s (Q_enc Z  h0 n0) ({ frames := 0, cells := 0, slots := 0, locals := 0 } : Room).cells ({ frames := 0, cells := 0, slots := 0, locals := 0 } : Room).slots) (ef_enc m ) ?_
  refine g_iloadN X0 hx hby d_enc_0 rfl (rfl : 0 + 1 = 1) ?_
  refine g_sipush X0 hx hby (255 : Int32) d_enc_1 (by decide) (rfl : 1 + 3 = 4) ?_
  refine g_icF X0 hx hby d_enc_4 (flt (by decide : ¬ ((255 : Int32) < (47 : Int32)))).2.2.1 (rfl : 4 + 3 = 7) ?_
  refine g_iconst X0 hx hby (1 : Int32) d_enc_7 (by decide) (rfl : 7 + 1 = 8) ?_
  refine g_goto X0 hx hby d_enc_8 (by decide) (pc' := 12) (by decide) ?_
  refine own_retN X0 hx hby hlk (t := .boolean) hrt (by simp) d_enc_12 (by decide) (by decide) ?_
  show Q_enc Z  h0 n0 _ s₁.heap _
  exact ⟨rfl, N0, e0⟩
theorem d_apc_0 : decode jdk_68_method_31_code 0 = .ok (.aload_n 0, 1) := by decide +kernel
theorem d_apc_1 : decode jdk_68_method_31_code 1 = .ok (.aload_n 0, 1) := by decide +kernel
theorem d_apc_2 : decode jdk_68_method_31_code 2 = .ok (.getfield 79, 3) := by decide +kernel
theorem d_apc_5 : decode jdk_68_method_31_code 5 = .ok (.iconst 1, 1) := by decide +kernel
theorem d_apc_6 : decode jdk_68_method_31_code 6 = .ok (.iadd, 1) := by decide +kernel
theorem d_apc_7 : decode jdk_68_method_31_code 7 = .ok (.invokevirtual 100, 3) := by decide +kernel
theorem d_apc_10 : decode jdk_68_method_31_code 10 = .ok (.aload_n 0, 1) := by decide +kernel
theorem d_apc_11 : decode jdk_68_method_31_code 11 = .ok (.invokevirtual 83, 3) := by decide +kernel
theorem d_apc_14 : decode jdk_68_method_31_code 14 = .ok (.ifCond .eq 31, 3) := by decide +kernel
theorem d_apc_17 : decode jdk_68_method_31_code 17 = .ok (.iload_n 1, 1) := by decide +kernel
theorem d_apc_18 : decode jdk_68_method_31_code 18 = .ok (.invokestatic 191, 3) := by decide +kernel
theorem d_apc_21 : decode jdk_68_method_31_code 21 = .ok (.ifCond .eq 24, 3) := by decide +kernel
theorem d_apc_24 : decode jdk_68_method_31_code 24 = .ok (.aload_n 0, 1) := by decide +kernel
theorem d_apc_25 : decode jdk_68_method_31_code 25 = .ok (.getfield 15, 3) := by decide +kernel
theorem d_apc_28 : decode jdk_68_method_31_code 28 = .ok (.aload_n 0, 1) := by decide +kernel
theorem d_apc_29 : decode jdk_68_method_31_code 29 = .ok (.dup, 1) := by decide +kernel
theorem d_apc_30 : decode jdk_68_method_31_code 30 = .ok (.getfield 79, 3) := by decide +kernel
theorem d_apc_33 : decode jdk_68_method_31_code 33 = .ok (.dup_x1, 1) := by decide +kernel
theorem d_apc_34 : decode jdk_68_method_31_code 34 = .ok (.iconst 1, 1) := by decide +kernel
theorem d_apc_35 : decode jdk_68_method_31_code 35 = .ok (.iadd, 1) := by decide +kernel
theorem d_apc_36 : decode jdk_68_method_31_code 36 = .ok (.putfield 79, 3) := by decide +kernel
theorem d_apc_39 : decode jdk_68_method_31_code 39 = .ok (.iload_n 1, 1) := by decide +kernel
theorem d_apc_40 : decode jdk_68_method_31_code 40 = .ok (.i2b, 1) := by decide +kernel
theorem d_apc_41 : decode jdk_68_method_31_code 41 = .ok (.bastore, 1) := by decide +kernel
theorem d_apc_42 : decode jdk_68_method_31_code 42 = .ok (.goto 33, 3) := by decide +kernel
theorem d_apc_75 : decode jdk_68_method_31_code 75 = .ok (.aload_n 0, 1) := by decide +kernel
theorem d_apc_76 : decode jdk_68_method_31_code 76 = .ok (.areturn, 1) := by decide +kernel
theorem pd15 : parseMethodDescriptor "()Z" = some ⟨[], some .boolean⟩ := by decide +kernel
theorem pd16 : parseMethodDescriptor "(C)Z" = some ⟨[.char], some .boolean⟩ := by decide +kernel
theorem ef_apc (m : MethodId) (a0 : Addr) : entryFrame m #[(.ref a0), (.int (47 : Int32))] 2 = mkF m 0 #[.val (.ref a0), .val (.int (47 : Int32))] [] := by first | (simp [entryFrame, mkF, argsToLocals, Value.category]; done) | rfl
def Q_apc (Z : State) (a0 : Addr) (vb : Addr) (kv : ClassId) (vv : List Value) (ct : Int32) (g1 : Int32) (h0 : Heap) (n0 : Nat) (v : Option Value) (h : Heap) (L : List Loc) : Prop := ∃ (vz : List Value), v = some (.ref a0) ∧ Fr n0 L ∧ Keep h0 h [a0, vb] ∧ Exa Z h a0 "java/lang/StringBuilder" ∧ Fld Z h a0 "java/lang/AbstractStringBuilder" "value" "[B" (.ref vb) ∧ Fld Z h a0 "java/lang/AbstractStringBuilder" "coder" "B" (.int (0 : Int32)) ∧ Fld Z h a0 "java/lang/AbstractStringBuilder" "count" "I" (.int (ct + (1 : Int32))) ∧ Exa Z h vb "[B" ∧ Arv Z h vb kv .byte (16 : Int32) vz (.int (0 : Int32)) ∧ vz.length = 16
set_option maxRecDepth 65536 in
set_option maxHeartbeats 40000000 in
theorem rm_apc (l : Launch) (Z : State) (aT : Array Value) (hw : ∀ d ∈ tables_1, d.before aT Z = true) (ws : List Jvm.Cond) (a0 : Addr) (vb : Addr) (kv : ClassId) (vv : List Value) (ct : Int32) (g1 : Int32) (h0 : Heap) (n0 : Nat) (Z0 : n0 ≤ h0.size) (hp0 : Exa Z h0 a0 "java/lang/StringBuilder") (hp1 : Fld Z h0 a0 "java/lang/AbstractStringBuilder" "value" "[B" (.ref vb)) (hp2 : Fld Z h0 a0 "java/lang/AbstractStringBuilder" "coder" "B" (.int (0 : Int32))) (hp3 : Fld Z h0 a0 "java/lang/AbstractStringBuilder" "count" "I" (.int ct)) (hp4 : Exa Z h0 vb "[B") (hp5 : Arv Z h0 vb kv .byte (16 : Int32) vv (.int (0 : Int32))) (hp6 : n0 ≤ vb) (hp7 : n0 ≤ a0) (hp8 : a0 ≠ vb) (hp9 : Sta Z h0 "java/lang/String" "COMPACT_STRINGS" "Z" (.int g1)) (hg1 : ¬ (g1 = (0 : Int32))) (hbd : own_bnd ct (1 : Int32)) (hl16 : vv.length = 16) :
    MetFree l (⟨"java/lang/AbstractStringBuilder", "append", "(C)Ljava/lang/AbstractStringBuilder;"⟩ : MethodName) (head1 (Jvm.Cond.code (⟨"java/lang/AbstractStringBuilder", "append", "(C)Ljava/lang/AbstractStringBuilder;"⟩ : MethodName) jdk_68_method_31_code 2 (some (.object "java/lang/AbstractStringBuilder")) :: ws) ({ frames := 1, cells := 0, slots := 0, locals := 14 } : Room)) (fun a U => a = #[(.ref a0), (.int (47 : Int32))] ∧ Z.Warmed39 U.vm ∧ U.heap = h0) (fun _ _ _ _ _ => True) (fun _ U o U' => ∃ v L, o = .returned v ∧ Q_apc Z a0 vb kv vv ct g1 h0 n0 v U'.heap L ∧ FrameEnd U o U' L ({ frames := 1, cells := 0, slots := 0, locals := 14 } : Room).cells ({ frames := 1, cells := 0, slots := 0, locals := 14 } : Room).slots) := by
  refine MetFree.of_bodySF (plainFor_of_name pn6) hisR ?_
  intro p e s m args below meth c s₁ Bd hml0 hP hK
  obtain ⟨rfl, hZ, hh⟩ := hP
  have hx := Bd.exec
  have hby := Bd.bytes
  have hml : c.maxLocals = 2 := hml0
  have hown : s.vm.findClass "java/lang/AbstractStringBuilder" = some m.cls := findClass_of_methodNamed Bd.named
  have hnm := (name_of_methodNamed Bd.named Bd.method).1
  have hlk := Bd.notSynchronized
  have hrt := Bd.returns
  have X0 : Stand p l e ({ frames := 1, cells := 0, slots := 0, locals := 14 } : Room) s m #[(.ref a0), (.int (47 : Int32))] below meth c s₁ [] 0 0 := Stand.of_body Bd
  have e0 : s₁.heap = h0 := by rw [← hh, Bd.state]; rfl
  have N0 := Fr.nil n0
  refine own_cast (P := own_End s (Q_apc Z a0 vb kv vv ct g1 h0 n0) ({ frames := 1, cells := 0, slots := 0, locals := 14 } : Room).cells ({ frames := 1, cells := 0, slots := 0, locals := 14 } : Room).slots) (ef_apc m a0) ?_
  refine g_aloadN X0 hx hby d_apc_0 rfl rfl (rfl : 0 + 1 = 1) ?_
  refine g_aloadN X0 hx hby d_apc_1 rfl rfl (rfl : 1 + 1 = 2) ?_
  obtain ⟨T382, X382, e382, st382⟩ := getF X0 hx hZ hown (host := "") (Or.inl (hw _ (List.mem_of_getElem? (i := 118) rfl))) Via.refl e0 hp3 (g := (mkF m 2 #[.val (.ref a0), .val (.int (47 : Int32))] [(.ref a0), (.ref a0)])) rfl rfl (hb hby d_apc_2)
  refine own_go st382 ?_
  show own_Got p e below _ T382 (mkF m 5 #[.val (.ref a0), .val (.int (47 : Int32))] [(.int ct), (.ref a0)])
  refine g_iconst X382 hx hby (1 : Int32) d_apc_5 (by decide) (rfl : 5 + 1 = 6) ?_
  refine g_iadd X382 hx hby d_apc_6 (rfl : 6 + 1 = 7) ?_
  obtain ⟨cq383, kq383, q383a, q383b, q383c⟩ := isOf hZ e382 hp0
  obtain ⟨_, _, ⟨T383, L383, k383, n383⟩, -, X383, ⟨Lc383, hQ383, l383, y383, z383⟩, st383⟩ := X382.virtualBack hx (y := (⟨"java/lang/AbstractStringBuilder", "ensureCapacityInternal", "(I)V"⟩ : MethodName)) (z := (⟨"java/lang/AbstractStringBuilder", "ensureCapacityInternal", "(I)V"⟩ : MethodName)) hown (mvT hZ (hw _ (List.mem_of_getElem? (i := 120) rfl))) (own_declares (mvT hZ (hw _ (List.mem_of_getElem? (i := 121) rfl))) (mvT hZ (hw _ (List.mem_of_getElem? (i := 124) rfl)))) (notFace_of_selects (args := #[]) (mvT hZ (hw _ (List.mem_of_getElem? (i := 123) rfl)))) (mvT hZ (hw _ (List.mem_of_getElem? (i := 123) rfl))) (mvT hZ (hw _ (List.mem_of_getElem? (i := 121) rfl))) (by decide) (backOf (W := 0) (rm_ens l Z aT hw [] a0 (ct + (1 : Int32)) vb kv vv h0 n0 Z0 hp1 hp5 hp2 (own_cap hbd : ¬ ((0 : Int32) < ((ct + (1 : Int32)) - (16 : Int32))))) hZ (hw _ (List.mem_of_getElem? (i := 124) rfl)) (hw _ (List.mem_of_getElem? (i := 90) rfl)) (by decide) (by decide)) q383a q383c (g := (mkF m 7 #[.val (.ref a0), .val (.int (47 : Int32))] [(.int (ct + (1 : Int32))), (.ref a0)])) rfl (by rw [hml]; rfl) (Steps.refl _) (argsL := [(.int (ct + (1 : Int32)))]) (rest := []) (lenOf pd9 rfl) rfl (by show 2 * 0 + _ ≤ _; exact Nat.le_of_eq rfl) (hb hby d_apc_7) (fun _ _ => ⟨rfl, e382, (by decide : 0 + 0 ≤ _), (by decide : 0 + 0 ≤ _)⟩)
  dsimp only [Pt.U, Pt.locs, Pt.cells, Pt.slots] at X383 l383 y383 z383 st383 hQ383
  subst l383 y383 z383
  obtain ⟨rfl, N383q, eq383⟩ := hQ383
  have N383 := Fr.app N0 N383q
  refine own_tr st383 ?_
  show own_Got p e below _ T383 (mkF m 10 #[.val (.ref a0), .val (.int (47 : Int32))] [])
  refine g_aloadN X383 hx hby d_apc_10 rfl rfl (rfl : 10 + 1 = 11) ?_
  obtain ⟨cq384, kq384, q384a, q384b, q384c⟩ := isOf hZ eq383 hp0
  obtain ⟨_, _, ⟨T384, L384, k384, n384⟩, -, X384, ⟨Lc384, hQ384, l384, y384, z384⟩, st384⟩ := X383.virtualBack hx (y := (⟨"java/lang/AbstractStringBuilder", "isLatin1", "()Z"⟩ : MethodName)) (z := (⟨"java/lang/AbstractStringBuilder", "isLatin1", "()Z"⟩ : MethodName)) hown (mvT hZ (hw _ (List.mem_of_getElem? (i := 154) rfl))) (mvT hZ (hw _ (List.mem_of_getElem? (i := 155) rfl))) (notFace_of_selects (args := #[]) (mvT hZ (hw _ (List.mem_of_getElem? (i := 157) rfl)))) (mvT hZ (hw _ (List.mem_of_getElem? (i := 157) rfl))) (mvT hZ (hw _ (List.mem_of_getElem? (i := 156) rfl))) (by decide) (backOf (W := 0) (rm_al1 l Z aT hw [] a0 g1 h0 n0 Z0 hp9 hp2 hg1) hZ (hw _ (List.mem_of_getElem? (i := 158) rfl)) (hw _ (List.mem_of_getElem? (i := 90) rfl)) (by decide) (by decide)) q384a q384c (g := (mkF m 11 #[.val (.ref a0), .val (.int (47 : Int32))] [(.ref a0)])) rfl (by rw [hml]; rfl) (Steps.refl _) (argsL := []) (rest := []) (lenOf pd15 rfl) rfl (by show 2 * 0 + _ ≤ _; exact Nat.le_of_eq rfl) (hb hby d_apc_11) (fun _ _ => ⟨rfl, eq383, (by decide : 0 + 0 ≤ _), (by decide : 0 + 0 ≤ _)⟩)
  dsimp only [Pt.U, Pt.locs, Pt.cells, Pt.slots] at X384 l384 y384 z384 st384 hQ384
  subst l384 y384 z384
  obtain ⟨rfl, N384q, eq384⟩ := hQ384
  have N384 := Fr.app N383 N384q
  refine own_tr st384 ?_
  show own_Got p e below _ T384 (mkF m 14 #[.val (.ref a0), .val (.int (47 : Int32))] [(.int (1 : Int32))])
  refine g_ifF X384 hx hby d_apc_14 ((if0 _ _).trans (feq (by decide : ¬ ((1 : Int32) = (0 : Int32)))).1) (rfl : 14 + 3 = 17) ?_
  refine g_iloadN X384 hx hby d_apc_17 rfl (rfl : 17 + 1 = 18) ?_
  obtain ⟨_, _, ⟨T385, L385, k385, n385⟩, -, X385, ⟨Lc385, hQ385, l385, y385, z385⟩, st385⟩ := Jvm.LawKit.callS X384 hx (y := (⟨"java/lang/StringLatin1", "canEncode", "(C)Z"⟩ : MethodName)) hown (mvT hZ (hw _ (List.mem_of_getElem? (i := 159) rfl))) (mvT hZ (hw _ (List.mem_of_getElem? (i := 160) rfl))) (mvT hZ (hw _ (List.mem_of_getElem? (i := 63) rfl))) (mvT hZ (hw _ (List.mem_of_getElem? (i := 161) rfl))) (by decide) (backOf (W := 0) (rm_enc l Z aT hw []  h0 n0 Z0) hZ (hw _ (List.mem_of_getElem? (i := 161) rfl)) (hw _ (List.mem_of_getElem? (i := 63) rfl)) (by decide) (by decide)) (g := (mkF m 18 #[.val (.ref a0), .val (.int (47 : Int32))] [(.int (47 : Int32))])) rfl (by rw [hml]; rfl) (argsL := [(.int (47 : Int32))]) (rest := []) (lenOf pd16 rfl) rfl (by show 2 * 0 + _ ≤ _; exact Nat.le_of_eq rfl) (hb hby d_apc_18) (fun _ _ => ⟨rfl, eq384, (by decide : 0 + 0 ≤ _), (by decide : 0 + 0 ≤ _)⟩)
  dsimp only [Pt.U, Pt.locs, Pt.cells, Pt.slots] at X385 l385 y385 z385 st385 hQ385
  subst l385 y385 z385
  obtain ⟨rfl, N385q, eq385⟩ := hQ385
  have N385 := Fr.app N384 N385q
  refine own_go st385 ?_
  show own_Got p e below _ T385 (mkF m 21 #[.val (.ref a0), .val (.int (47 : Int32))] [(.int (1 : Int32))])
  refine g_ifF X385 hx hby d_apc_21 ((if0 _ _).trans (feq (by decide : ¬ ((1 : Int32) = (0 : Int32)))).1) (rfl : 21 + 3 = 24) ?_
  refine g_aloadN X385 hx hby d_apc_24 rfl rfl (rfl : 24 + 1 = 25) ?_
  obtain ⟨T386, X386, e386, st386⟩ := getF X385 hx hZ hown (host := "") (Or.inl (hw _ (List.mem_of_getElem? (i := 94) rfl))) Via.refl eq385 hp1 (g := (mkF m 25 #[.val (.ref a0), .val (.int (47 : Int32))] [(.ref a0)])) rfl rfl (hb hby d_apc_25)
  refine own_go st386 ?_
  show own_Got p e below _ T386 (mkF m 28 #[.val (.ref a0), .val (.int (47 : Int32))] [(.ref vb)])
  refine g_aloadN X386 hx hby d_apc_28 rfl rfl (rfl : 28 + 1 = 29) ?_
  refine g_dup X386 hx hby d_apc_29 rfl (rfl : 29 + 1 = 30) ?_
  obtain ⟨T387, X387, e387, st387⟩ := getF X386 hx hZ hown (host := "") (Or.inl (hw _ (List.mem_of_getElem? (i := 118) rfl))) Via.refl e386 hp3 (g := (mkF m 30 #[.val (.ref a0), .val (.int (47 : Int32))] [(.ref a0), (.ref a0), (.ref vb)])) rfl rfl (hb hby d_apc_30)
  refine own_go st387 ?_
  show own_Got p e below _ T387 (mkF m 33 #[.val (.ref a0), .val (.int (47 : Int32))] [(.int ct), (.ref a0), (.ref vb)])
  refine g_dupX1 X387 hx hby d_apc_33 rfl rfl (rfl : 33 + 1 = 34) ?_
  refine g_iconst X387 hx hby (1 : Int32) d_apc_34 (by decide) (rfl : 34 + 1 = 35) ?_
  refine g_iadd X387 hx hby d_apc_35 (rfl : 35 + 1 = 36) ?_
  obtain ⟨T388, h388, X388, e388, W388, st388⟩ := putF X387 hx hZ hown (host := "") (Or.inl (hw _ (List.mem_of_getElem? (i := 118) rfl))) Via.refl e387 hp3 hp0 (Or.inl (hw _ (List.mem_of_getElem? (i := 119) rfl))) (hw _ (List.mem_of_getElem? (i := 81) rfl)) (ty := .int) (by decide) rfl rfl (g := (mkF m 36 #[.val (.ref a0), .val (.int (47 : Int32))] [(.int (ct + (1 : Int32))), (.ref a0), (.int ct), (.ref vb)])) rfl rfl (hb hby d_apc_36)
  have Z388 : n0 ≤ h388.size := Nat.le_trans Z0 (Keep.of_wr W388).1
  have N388 := Fr.snoc X388 N385 hp7
  have K388 : Keep h0 h388 [a0, vb] := (Keep.refl h0 [a0, vb]).wr W388 (Or.inl (List.mem_of_getElem? (i := 0) rfl))
  have f388 : Fld Z h388 a0 "java/lang/AbstractStringBuilder" "count" "I" (.int (ct + (1 : Int32))) := Fld.same W388 hp3
  refine own_go st388 ?_
  show own_Got p e below _ T388 (mkF m 39 #[.val (.ref a0), .val (.int (47 : Int32))] [(.int ct), (.ref vb)])
  refine g_iloadN X388 hx hby d_apc_39 rfl (rfl : 39 + 1 = 40) ?_
  refine g_i2b X388 hx hby d_apc_40 (rfl : 40 + 1 = 41) ?_
  rw [(by decide : ((47 : Int32).toInt8.toInt32) = (47 : Int32))]
  have f389 : Arv Z h388 vb kv .byte (16 : Int32) vv (.int (0 : Int32)) := (Arv.other hp5 W388 (Ne.symm hp8))
  obtain ⟨T390, h390, X390, e390, W390, V390, st390⟩ := a_bastore X388 hx hby hZ e388 (ls := #[.val (.ref a0), .val (.int (47 : Int32))]) (st := []) (j := ct) (47 : Int32) _ f389 ⟨own_pos hbd, own_lt16 hbd⟩ rfl (by rw [hl16]; exact own_in1 hbd) d_apc_41
  have Z390 : n0 ≤ h390.size := Nat.le_trans Z388 (Keep.of_wr W390).1
  have N390 := Fr.snoc X390 N388 hp6
  have K390 : Keep h0 h390 [a0, vb] := K388.wr W390 (Or.inl (List.mem_of_getElem? (i := 1) rfl))
  obtain ⟨vq390, lq390, Vq390⟩ : ∃ vq : List Value, vq.length = 16 ∧ Arv Z h390 vb kv .byte (16 : Int32) vq (.int (0 : Int32)) := ⟨_, by rw [List.length_set]; exact hl16, V390⟩
  refine own_go st390 ?_
  show own_Got p e below _ T390 (mkF m 42 #[.val (.ref a0), .val (.int (47 : Int32))] [])
  refine g_goto X390 hx hby d_apc_42 (by decide) (pc' := 75) (by decide) ?_
  refine g_aloadN X390 hx hby d_apc_75 rfl rfl (rfl : 75 + 1 = 76) ?_
  have f391 : Exa Z h390 a0 "java/lang/StringBuilder" := (Exa.wr W390 (Exa.wr W388 hp0))
  have f392 : Fld Z h390 a0 "java/lang/AbstractStringBuilder" "value" "[B" (.ref vb) := (Fld.other W390 (Fld.other W388 hp1 (Or.inr (slot_ne (Or.inl (hw _ (List.mem_of_getElem? (i := 95) rfl))) (Or.inl (hw _ (List.mem_of_getElem? (i := 119) rfl))) (by decide) (t := (.array .byte)) (t' := .int) (by decide) (by decide)))) (Or.inl hp8))
  have f393 : Fld Z h390 a0 "java/lang/AbstractStringBuilder" "coder" "B" (.int (0 : Int32)) := (Fld.other W390 (Fld.other W388 hp2 (Or.inr (slot_ne (Or.inl (hw _ (List.mem_of_getElem? (i := 97) rfl))) (Or.inl (hw _ (List.mem_of_getElem? (i := 119) rfl))) (by decide) (t := .byte) (t' := .int) (by decide) (by decide)))) (Or.inl hp8))
  have f394 : Fld Z h390 a0 "java/lang/AbstractStringBuilder" "count" "I" (.int (ct + (1 : Int32))) := (Fld.other W390 f388 (Or.inl hp8))
  have f395 : Exa Z h390 vb "[B" := (Exa.wr W390 (Exa.wr W388 hp4))
  refine own_retR X390 hx hby hlk hrt rfl d_apc_76 (by decide) (by decide) rfl ?_
  show Q_apc Z a0 vb kv vv ct g1 h0 n0 _ T390.heap _
  rw [e390]
  exact ⟨vq390, rfl, N390, K390, f391, f392, f393, f394, f395, Vq390, lq390⟩
theorem d_sbc_0 : decode jdk_67_method_14_code 0 = .ok (.aload_n 0, 1) := by decide +kernel
theorem d_sbc_1 : decode jdk_67_method_14_code 1 = .ok (.iload_n 1, 1) := by decide +kernel
theorem d_sbc_2 : decode jdk_67_method_14_code 2 = .ok (.invokespecial 50, 3) := by decide +kernel
theorem d_sbc_5 : decode jdk_67_method_14_code 5 = .ok (.pop, 1) := by decide +kernel
theorem d_sbc_6 : decode jdk_67_method_14_code 6 = .ok (.aload_n 0, 1) := by decide +kernel
theorem d_sbc_7 : decode jdk_67_method_14_code 7 = .ok (.areturn, 1) := by decide +kernel
theorem pd17 : parseMethodDescriptor "(C)Ljava/lang/AbstractStringBuilder;" = some ⟨[.char], some (.object "java/lang/AbstractStringBuilder")⟩ := by decide +kernel
theorem ef_sbc (m : MethodId) (a0 : Addr) : entryFrame m #[(.ref a0), (.int (47 : Int32))] 2 = mkF m 0 #[.val (.ref a0), .val (.int (47 : Int32))] [] := by first | (simp [entryFrame, mkF, argsToLocals, Value.category]; done) | rfl
def Q_sbc (Z : State) (a0 : Addr) (vb : Addr) (kv : ClassId) (vv : List Value) (ct : Int32) (g1 : Int32) (h0 : Heap) (n0 : Nat) (v : Option Value) (h : Heap) (L : List Loc) : Prop := ∃ (vz : List Value), v = some (.ref a0) ∧ Fr n0 L ∧ Keep h0 h [a0, vb] ∧ Exa Z h a0 "java/lang/StringBuilder" ∧ Fld Z h a0 "java/lang/AbstractStringBuilder" "value" "[B" (.ref vb) ∧ Fld Z h a0 "java/lang/AbstractStringBuilder" "coder" "B" (.int (0 : Int32)) ∧ Fld Z h a0 "java/lang/AbstractStringBuilder" "count" "I" (.int (ct + (1 : Int32))) ∧ Exa Z h vb "[B" ∧ Arv Z h vb kv .byte (16 : Int32) vz (.int (0 : Int32)) ∧ vz.length = 16
set_option maxRecDepth 65536 in
set_option maxHeartbeats 40000000 in
theorem rm_sbc (l : Launch) (Z : State) (aT : Array Value) (hw : ∀ d ∈ tables_1, d.before aT Z = true) (ws : List Jvm.Cond) (a0 : Addr) (vb : Addr) (kv : ClassId) (vv : List Value) (ct : Int32) (g1 : Int32) (h0 : Heap) (n0 : Nat) (Z0 : n0 ≤ h0.size) (hp0 : Exa Z h0 a0 "java/lang/StringBuilder") (hp1 : Fld Z h0 a0 "java/lang/AbstractStringBuilder" "value" "[B" (.ref vb)) (hp2 : Fld Z h0 a0 "java/lang/AbstractStringBuilder" "coder" "B" (.int (0 : Int32))) (hp3 : Fld Z h0 a0 "java/lang/AbstractStringBuilder" "count" "I" (.int ct)) (hp4 : Exa Z h0 vb "[B") (hp5 : Arv Z h0 vb kv .byte (16 : Int32) vv (.int (0 : Int32))) (hp6 : n0 ≤ vb) (hp7 : n0 ≤ a0) (hp8 : a0 ≠ vb) (hp9 : Sta Z h0 "java/lang/String" "COMPACT_STRINGS" "Z" (.int g1)) (hg1 : ¬ (g1 = (0 : Int32))) (hbd : own_bnd ct (1 : Int32)) (hl16 : vv.length = 16) :
    MetFree l (⟨"java/lang/StringBuilder", "append", "(C)Ljava/lang/StringBuilder;"⟩ : MethodName) (head1 (Jvm.Cond.code (⟨"java/lang/StringBuilder", "append", "(C)Ljava/lang/StringBuilder;"⟩ : MethodName) jdk_67_method_14_code 2 (some (.object "java/lang/StringBuilder")) :: ws) ({ frames := 2, cells := 0, slots := 0, locals := 27 } : Room)) (fun a U => a = #[(.ref a0), (.int (47 : Int32))] ∧ Z.Warmed39 U.vm ∧ U.heap = h0) (fun _ _ _ _ _ => True) (fun _ U o U' => ∃ v L, o = .returned v ∧ Q_sbc Z a0 vb kv vv ct g1 h0 n0 v U'.heap L ∧ FrameEnd U o U' L ({ frames := 2, cells := 0, slots := 0, locals := 27 } : Room).cells ({ frames := 2, cells := 0, slots := 0, locals := 27 } : Room).slots) := by
  refine MetFree.of_bodySF (plainFor_of_name pn7) hisR ?_
  intro p e s m args below meth c s₁ Bd hml0 hP hK
  obtain ⟨rfl, hZ, hh⟩ := hP
  have hx := Bd.exec
  have hby := Bd.bytes
  have hml : c.maxLocals = 2 := hml0
  have hown : s.vm.findClass "java/lang/StringBuilder" = some m.cls := findClass_of_methodNamed Bd.named
  have hnm := (name_of_methodNamed Bd.named Bd.method).1
  have hlk := Bd.notSynchronized
  have hrt := Bd.returns
  have X0 : Stand p l e ({ frames := 2, cells := 0, slots := 0, locals := 27 } : Room) s m #[(.ref a0), (.int (47 : Int32))] below meth c s₁ [] 0 0 := Stand.of_body Bd
  have e0 : s₁.heap = h0 := by rw [← hh, Bd.state]; rfl
  have N0 := Fr.nil n0
  refine own_cast (P := own_End s (Q_sbc Z a0 vb kv vv ct g1 h0 n0) ({ frames := 2, cells := 0, slots := 0, locals := 27 } : Room).cells ({ frames := 2, cells := 0, slots := 0, locals := 27 } : Room).slots) (ef_sbc m a0) ?_
  refine g_aloadN X0 hx hby d_sbc_0 rfl rfl (rfl : 0 + 1 = 1) ?_
  refine g_iloadN X0 hx hby d_sbc_1 rfl (rfl : 1 + 1 = 2) ?_
  obtain ⟨_, _, ⟨T396, L396, k396, n396⟩, -, X396, ⟨Lc396, hQ396, l396, y396, z396⟩, st396⟩ := own_superBack X0 hx hZ (y := (⟨"java/lang/AbstractStringBuilder", "append", "(C)Ljava/lang/AbstractStringBuilder;"⟩ : MethodName)) hown (hw _ (List.mem_of_getElem? (i := 150) rfl)) (hw _ (List.mem_of_getElem? (i := 151) rfl)) (hw _ (List.mem_of_getElem? (i := 105) rfl)) (by decide) (by decide) (backOf (W := 0) (rm_apc l Z aT hw [] a0 vb kv vv ct g1 h0 n0 Z0 hp0 hp1 hp2 hp3 hp4 hp5 hp6 hp7 hp8 hp9 hg1 hbd hl16) hZ (hw _ (List.mem_of_getElem? (i := 153) rfl)) (hw _ (List.mem_of_getElem? (i := 90) rfl)) (by decide) (by decide)) e0 (Ins.self hp0) (g := (mkF m 2 #[.val (.ref a0), .val (.int (47 : Int32))] [(.int (47 : Int32)), (.ref a0)])) rfl (by rw [hml]; rfl) (hw _ (List.mem_of_getElem? (i := 153) rfl)) (argsL := [(.int (47 : Int32))]) (rest := []) (lenOf pd17 rfl) rfl (by show 2 * 0 + _ ≤ _; exact Nat.le_of_eq rfl) (hb hby d_sbc_2) (fun _ _ => ⟨rfl, e0, (by decide : 0 + 0 ≤ _), (by decide : 0 + 0 ≤ _)⟩)
  dsimp only [Pt.U, Pt.locs, Pt.cells, Pt.slots] at X396 l396 y396 z396 st396 hQ396
  subst l396 y396 z396
  obtain ⟨vz_396, rfl, N396q, K396, q396_0, q396_1, q396_2, q396_3, q396_4, q396_5, q396_6⟩ := hQ396
  have N396 := Fr.app N0 N396q
  have Z396 : n0 ≤ T396.heap.size := Nat.le_trans Z0 K396.1
  have KC396 : Keep h0 T396.heap [a0, vb] := (Keep.refl h0 [a0, vb]).trans K396 (allS (Or.inl (List.mem_of_getElem? (i := 0) rfl)) (allS (Or.inl (List.mem_of_getElem? (i := 1) rfl)) all0))
  refine own_tr st396 ?_
  show own_Got p e below _ T396 (mkF m 5 #[.val (.ref a0), .val (.int (47 : Int32))] [(.ref a0)])
  refine g_pop X396 hx hby d_sbc_5 rfl (rfl : 5 + 1 = 6) ?_
  refine g_aloadN X396 hx hby d_sbc_6 rfl rfl (rfl : 6 + 1 = 7) ?_
  refine own_retR X396 hx hby hlk hrt rfl d_sbc_7 (by decide) (by decide) rfl ?_
  show Q_sbc Z a0 vb kv vv ct g1 h0 n0 _ T396.heap _
  exact ⟨vz_396, rfl, N396, KC396, q396_0, q396_1, q396_2, q396_3, q396_4, q396_5, q396_6⟩
theorem d_gva_0 : decode jdk_68_method_64_code 0 = .ok (.aload_n 0, 1) := by decide +kernel
theorem d_gva_1 : decode jdk_68_method_64_code 1 = .ok (.getfield 15, 3) := by decide +kernel
theorem d_gva_4 : decode jdk_68_method_64_code 4 = .ok (.areturn, 1) := by decide +kernel
theorem ef_gva (m : MethodId) (a0 : Addr) : entryFrame m #[(.ref a0)] 1 = mkF m 0 #[.val (.ref a0)] [] := by first | (simp [entryFrame, mkF, argsToLocals, Value.category]; done) | rfl
def Q_gva (Z : State) (a0 : Addr) (vb : Addr) (h0 : Heap) (n0 : Nat) (v : Option Value) (h : Heap) (L : List Loc) : Prop := v = some (.ref vb) ∧ Fr n0 L ∧ h = h0
set_option maxRecDepth 65536 in
set_option maxHeartbeats 40000000 in
theorem rm_gva (l : Launch) (Z : State) (aT : Array Value) (hw : ∀ d ∈ tables_1, d.before aT Z = true) (ws : List Jvm.Cond) (a0 : Addr) (vb : Addr) (h0 : Heap) (n0 : Nat) (Z0 : n0 ≤ h0.size) (hp0 : Fld Z h0 a0 "java/lang/AbstractStringBuilder" "value" "[B" (.ref vb)) :
    MetFree l (⟨"java/lang/AbstractStringBuilder", "getValue", "()[B"⟩ : MethodName) (head1 (Jvm.Cond.code (⟨"java/lang/AbstractStringBuilder", "getValue", "()[B"⟩ : MethodName) jdk_68_method_64_code 1 (some (.array .byte)) :: ws) ({ frames := 0, cells := 0, slots := 0, locals := 0 } : Room)) (fun a U => a = #[(.ref a0)] ∧ Z.Warmed39 U.vm ∧ U.heap = h0) (fun _ _ _ _ _ => True) (fun _ U o U' => ∃ v L, o = .returned v ∧ Q_gva Z a0 vb h0 n0 v U'.heap L ∧ FrameEnd U o U' L ({ frames := 0, cells := 0, slots := 0, locals := 0 } : Room).cells ({ frames := 0, cells := 0, slots := 0, locals := 0 } : Room).slots) := by
  refine MetFree.of_bodySF (plainFor_of_name pn6) hisR ?_
  intro p e s m args below meth c s₁ Bd hml0 hP hK
  obtain ⟨rfl, hZ, hh⟩ := hP
  have hx := Bd.exec
  have hby := Bd.bytes
  have hml : c.maxLocals = 1 := hml0
  have hown : s.vm.findClass "java/lang/AbstractStringBuilder" = some m.cls := findClass_of_methodNamed Bd.named
  have hnm := (name_of_methodNamed Bd.named Bd.method).1
  have hlk := Bd.notSynchronized
  have hrt := Bd.returns
  have X0 : Stand p l e ({ frames := 0, cells := 0, slots := 0, locals := 0 } : Room) s m #[(.ref a0)] below meth c s₁ [] 0 0 := Stand.of_body Bd
  have e0 : s₁.heap = h0 := by rw [← hh, Bd.state]; rfl
  have N0 := Fr.nil n0
  refine own_cast (P := own_End s (Q_gva Z a0 vb h0 n0) ({ frames := 0, cells := 0, slots := 0, locals := 0 } : Room).cells ({ frames := 0, cells := 0, slots := 0, locals := 0 } : Room).slots) (ef_gva m a0) ?_
  refine g_aloadN X0 hx hby d_gva_0 rfl rfl (rfl : 0 + 1 = 1) ?_
  obtain ⟨T397, X397, e397, st397⟩ := getF X0 hx hZ hown (host := "") (Or.inl (hw _ (List.mem_of_getElem? (i := 94) rfl))) Via.refl e0 hp0 (g := (mkF m 1 #[.val (.ref a0)] [(.ref a0)])) rfl rfl (hb hby d_gva_1)
  refine own_go st397 ?_
  show own_Got p e below _ T397 (mkF m 4 #[.val (.ref a0)] [(.ref vb)])
  refine own_retR X397 hx hby hlk hrt rfl d_gva_4 (by decide) (by decide) rfl ?_
  show Q_gva Z a0 vb h0 n0 _ T397.heap _
  exact ⟨rfl, N0, e397⟩
theorem d_asl_0 : decode jdk_68_method_6_code 0 = .ok (.aload_n 0, 1) := by decide +kernel
theorem d_asl_1 : decode jdk_68_method_6_code 1 = .ok (.getfield 79, 3) := by decide +kernel
theorem d_asl_4 : decode jdk_68_method_6_code 4 = .ok (.ireturn, 1) := by decide +kernel
theorem ef_asl (m : MethodId) (a0 : Addr) : entryFrame m #[(.ref a0)] 1 = mkF m 0 #[.val (.ref a0)] [] := by first | (simp [entryFrame, mkF, argsToLocals, Value.category]; done) | rfl
def Q_asl (Z : State) (a0 : Addr) (ct : Int32) (h0 : Heap) (n0 : Nat) (v : Option Value) (h : Heap) (L : List Loc) : Prop := v = some (.int ct) ∧ Fr n0 L ∧ h = h0
set_option maxRecDepth 65536 in
set_option maxHeartbeats 40000000 in
theorem rm_asl (l : Launch) (Z : State) (aT : Array Value) (hw : ∀ d ∈ tables_1, d.before aT Z = true) (ws : List Jvm.Cond) (a0 : Addr) (ct : Int32) (h0 : Heap) (n0 : Nat) (Z0 : n0 ≤ h0.size) (hp0 : Fld Z h0 a0 "java/lang/AbstractStringBuilder" "count" "I" (.int ct)) :
    MetFree l (⟨"java/lang/AbstractStringBuilder", "length", "()I"⟩ : MethodName) (head1 (Jvm.Cond.code (⟨"java/lang/AbstractStringBuilder", "length", "()I"⟩ : MethodName) jdk_68_method_6_code 1 (some .int) :: ws) ({ frames := 0, cells := 0, slots := 0, locals := 0 } : Room)) (fun a U => a = #[(.ref a0)] ∧ Z.Warmed39 U.vm ∧ U.heap = h0) (fun _ _ _ _ _ => True) (fun _ U o U' => ∃ v L, o = .returned v ∧ Q_asl Z a0 ct h0 n0 v U'.heap L ∧ FrameEnd U o U' L ({ frames := 0, cells := 0, slots := 0, locals := 0 } : Room).cells ({ frames := 0, cells := 0, slots := 0, locals := 0 } : Room).slots) := by
  refine MetFree.of_bodySF (plainFor_of_name pn6) hisR ?_
  intro p e s m args below meth c s₁ Bd hml0 hP hK
  obtain ⟨rfl, hZ, hh⟩ := hP
  have hx := Bd.exec
  have hby := Bd.bytes
  have hml : c.maxLocals = 1 := hml0
  have hown : s.vm.findClass "java/lang/AbstractStringBuilder" = some m.cls := findClass_of_methodNamed Bd.named
  have hnm := (name_of_methodNamed Bd.named Bd.method).1
  have hlk := Bd.notSynchronized
  have hrt := Bd.returns
  have X0 : Stand p l e ({ frames := 0, cells := 0, slots := 0, locals := 0 } : Room) s m #[(.ref a0)] below meth c s₁ [] 0 0 := Stand.of_body Bd
  have e0 : s₁.heap = h0 := by rw [← hh, Bd.state]; rfl
  have N0 := Fr.nil n0
  refine own_cast (P := own_End s (Q_asl Z a0 ct h0 n0) ({ frames := 0, cells := 0, slots := 0, locals := 0 } : Room).cells ({ frames := 0, cells := 0, slots := 0, locals := 0 } : Room).slots) (ef_asl m a0) ?_
  refine g_aloadN X0 hx hby d_asl_0 rfl rfl (rfl : 0 + 1 = 1) ?_
  obtain ⟨T398, X398, e398, st398⟩ := getF X0 hx hZ hown (host := "") (Or.inl (hw _ (List.mem_of_getElem? (i := 118) rfl))) Via.refl e0 hp0 (g := (mkF m 1 #[.val (.ref a0)] [(.ref a0)])) rfl rfl (hb hby d_asl_1)
  refine own_go st398 ?_
  show own_Got p e below _ T398 (mkF m 4 #[.val (.ref a0)] [(.int ct)])
  refine own_retI X398 hx hby hlk hrt d_asl_4 (by decide) (by decide) ?_
  show Q_asl Z a0 ct h0 n0 _ T398.heap _
  exact ⟨rfl, N0, e398⟩
theorem d_sbl_0 : decode jdk_67_method_93_code 0 = .ok (.aload_n 0, 1) := by decide +kernel
theorem d_sbl_1 : decode jdk_67_method_93_code 1 = .ok (.invokespecial 343, 3) := by decide +kernel
theorem d_sbl_4 : decode jdk_67_method_93_code 4 = .ok (.ireturn, 1) := by decide +kernel
theorem ef_sbl (m : MethodId) (a0 : Addr) : entryFrame m #[(.ref a0)] 1 = mkF m 0 #[.val (.ref a0)] [] := by first | (simp [entryFrame, mkF, argsToLocals, Value.category]; done) | rfl
def Q_sbl (Z : State) (a0 : Addr) (ct : Int32) (h0 : Heap) (n0 : Nat) (v : Option Value) (h : Heap) (L : List Loc) : Prop := v = some (.int ct) ∧ Fr n0 L ∧ h = h0
set_option maxRecDepth 65536 in
set_option maxHeartbeats 40000000 in
theorem rm_sbl (l : Launch) (Z : State) (aT : Array Value) (hw : ∀ d ∈ tables_1, d.before aT Z = true) (ws : List Jvm.Cond) (a0 : Addr) (ct : Int32) (h0 : Heap) (n0 : Nat) (Z0 : n0 ≤ h0.size) (hp0 : Exa Z h0 a0 "java/lang/StringBuilder") (hp1 : Fld Z h0 a0 "java/lang/AbstractStringBuilder" "count" "I" (.int ct)) :
    MetFree l (⟨"java/lang/StringBuilder", "length", "()I"⟩ : MethodName) (head1 (Jvm.Cond.code (⟨"java/lang/StringBuilder", "length", "()I"⟩ : MethodName) jdk_67_method_93_code 1 (some .int) :: ws) ({ frames := 1, cells := 0, slots := 0, locals := 12 } : Room)) (fun a U => a = #[(.ref a0)] ∧ Z.Warmed39 U.vm ∧ U.heap = h0) (fun _ _ _ _ _ => True) (fun _ U o U' => ∃ v L, o = .returned v ∧ Q_sbl Z a0 ct h0 n0 v U'.heap L ∧ FrameEnd U o U' L ({ frames := 1, cells := 0, slots := 0, locals := 12 } : Room).cells ({ frames := 1, cells := 0, slots := 0, locals := 12 } : Room).slots) := by
  refine MetFree.of_bodySF (plainFor_of_name pn7) hisR ?_
  intro p e s m args below meth c s₁ Bd hml0 hP hK
  obtain ⟨rfl, hZ, hh⟩ := hP
  have hx := Bd.exec
  have hby := Bd.bytes
  have hml : c.maxLocals = 1 := hml0
  have hown : s.vm.findClass "java/lang/StringBuilder" = some m.cls := findClass_of_methodNamed Bd.named
  have hnm := (name_of_methodNamed Bd.named Bd.method).1
  have hlk := Bd.notSynchronized
  have hrt := Bd.returns
  have X0 : Stand p l e ({ frames := 1, cells := 0, slots := 0, locals := 12 } : Room) s m #[(.ref a0)] below meth c s₁ [] 0 0 := Stand.of_body Bd
  have e0 : s₁.heap = h0 := by rw [← hh, Bd.state]; rfl
  have N0 := Fr.nil n0
  refine own_cast (P := own_End s (Q_sbl Z a0 ct h0 n0) ({ frames := 1, cells := 0, slots := 0, locals := 12 } : Room).cells ({ frames := 1, cells := 0, slots := 0, locals := 12 } : Room).slots) (ef_sbl m a0) ?_
  refine g_aloadN X0 hx hby d_sbl_0 rfl rfl (rfl : 0 + 1 = 1) ?_
  obtain ⟨_, _, ⟨T399, L399, k399, n399⟩, -, X399, ⟨Lc399, hQ399, l399, y399, z399⟩, st399⟩ := own_superBack X0 hx hZ (y := (⟨"java/lang/AbstractStringBuilder", "length", "()I"⟩ : MethodName)) hown (hw _ (List.mem_of_getElem? (i := 185) rfl)) (hw _ (List.mem_of_getElem? (i := 181) rfl)) (hw _ (List.mem_of_getElem? (i := 105) rfl)) (by decide) (by decide) (backOf (W := 0) (rm_asl l Z aT hw [] a0 ct h0 n0 Z0 hp1) hZ (hw _ (List.mem_of_getElem? (i := 186) rfl)) (hw _ (List.mem_of_getElem? (i := 90) rfl)) (by decide) (by decide)) e0 (Ins.self hp0) (g := (mkF m 1 #[.val (.ref a0)] [(.ref a0)])) rfl (by rw [hml]; rfl) (hw _ (List.mem_of_getElem? (i := 186) rfl)) (argsL := []) (rest := []) (lenOf pd12 rfl) rfl (by show 2 * 0 + _ ≤ _; exact Nat.le_of_eq rfl) (hb hby d_sbl_1) (fun _ _ => ⟨rfl, e0, (by decide : 0 + 0 ≤ _), (by decide : 0 + 0 ≤ _)⟩)
  dsimp only [Pt.U, Pt.locs, Pt.cells, Pt.slots] at X399 l399 y399 z399 st399 hQ399
  subst l399 y399 z399
  obtain ⟨rfl, N399q, eq399⟩ := hQ399
  have N399 := Fr.app N0 N399q
  refine own_tr st399 ?_
  show own_Got p e below _ T399 (mkF m 4 #[.val (.ref a0)] [(.int ct)])
  refine own_retI X399 hx hby hlk hrt d_sbl_4 (by decide) (by decide) ?_
  show Q_sbl Z a0 ct h0 n0 _ T399.heap _
  exact ⟨rfl, N399, eq399⟩
theorem d_ckl_0 : decode jdk_65_method_131_code 0 = .ok (.iload_n 1, 1) := by decide +kernel
theorem d_ckl_1 : decode jdk_65_method_131_code 1 = .ok (.iload_n 0, 1) := by decide +kernel
theorem d_ckl_2 : decode jdk_65_method_131_code 2 = .ok (.if_icmp .ge 35, 3) := by decide +kernel
theorem d_ckl_37 : decode jdk_65_method_131_code 37 = .ok (.return_, 1) := by decide +kernel
theorem pn8 : plainName "java/util/Arrays" = true := by first | (simp [plainName, overriddenIn]; done) | decide +kernel
theorem ef_ckl (m : MethodId) (x : Int32) (y : Int32) : entryFrame m #[(.int x), (.int y)] 2 = mkF m 0 #[.val (.int x), .val (.int y)] [] := by first | (simp [entryFrame, mkF, argsToLocals, Value.category]; done) | rfl
def Q_ckl (Z : State) (x : Int32) (y : Int32) (h0 : Heap) (n0 : Nat) (v : Option Value) (h : Heap) (L : List Loc) : Prop := v = none ∧ Fr n0 L ∧ h = h0
set_option maxRecDepth 65536 in
set_option maxHeartbeats 40000000 in
theorem rm_ckl (l : Launch) (Z : State) (aT : Array Value) (hw : ∀ d ∈ tables_1, d.before aT Z = true) (ws : List Jvm.Cond) (x : Int32) (y : Int32) (h0 : Heap) (n0 : Nat) (Z0 : n0 ≤ h0.size) (hxy : ¬ (y < x)) :
    MetFree l (⟨"java/util/Arrays", "checkLength", "(II)V"⟩ : MethodName) (head1 (Jvm.Cond.code (⟨"java/util/Arrays", "checkLength", "(II)V"⟩ : MethodName) jdk_65_method_131_code 2 none :: ws) ({ frames := 0, cells := 0, slots := 0, locals := 0 } : Room)) (fun a U => a = #[(.int x), (.int y)] ∧ Z.Warmed39 U.vm ∧ U.heap = h0) (fun _ _ _ _ _ => True) (fun _ U o U' => ∃ v L, o = .returned v ∧ Q_ckl Z x y h0 n0 v U'.heap L ∧ FrameEnd U o U' L ({ frames := 0, cells := 0, slots := 0, locals := 0 } : Room).cells ({ frames := 0, cells := 0, slots := 0, locals := 0 } : Room).slots) := by
  refine MetFree.of_bodySF (plainFor_of_name pn8) hisR ?_
  intro p e s m args below meth c s₁ Bd hml0 hP hK
  obtain ⟨rfl, hZ, hh⟩ := hP
  have hx := Bd.exec
  have hby := Bd.bytes
  have hml : c.maxLocals = 2 := hml0
  have hown : s.vm.findClass "java/util/Arrays" = some m.cls := findClass_of_methodNamed Bd.named
  have hnm := (name_of_methodNamed Bd.named Bd.method).1
  have hlk := Bd.notSynchronized
  have hrt := Bd.returns
  have X0 : Stand p l e ({ frames := 0, cells := 0, slots := 0, locals := 0 } : Room) s m #[(.int x), (.int y)] below meth c s₁ [] 0 0 := Stand.of_body Bd
  have e0 : s₁.heap = h0 := by rw [← hh, Bd.state]; rfl
  have N0 := Fr.nil n0
  refine own_cast (P := own_End s (Q_ckl Z x y h0 n0) ({ frames := 0, cells := 0, slots := 0, locals := 0 } : Room).cells ({ frames := 0, cells := 0, slots := 0, locals := 0 } : Room).slots) (ef_ckl m x y) ?_
  refine g_iloadN X0 hx hby d_ckl_0 rfl (rfl : 0 + 1 = 1) ?_
  refine g_iloadN X0 hx hby d_ckl_1 rfl (rfl : 1 + 1 = 2) ?_
  refine g_icT X0 hx hby d_ckl_2 (flt hxy).2.1 (by decide) (pc' := 37) (by decide) ?_
  refine own_retV X0 hx hby hlk hrt d_ckl_37 (by decide) (by decide) ?_
  show Q_ckl Z x y h0 n0 _ s₁.heap _
  exact ⟨rfl, N0, e0⟩
theorem d_mmn_0 : decode jdk_29_method_69_code 0 = .ok (.iload_n 0, 1) := by decide +kernel
theorem d_mmn_1 : decode jdk_29_method_69_code 1 = .ok (.iload_n 1, 1) := by decide +kernel
theorem d_mmn_2 : decode jdk_29_method_69_code 2 = .ok (.if_icmp .gt 7, 3) := by decide +kernel
theorem d_mmn_9 : decode jdk_29_method_69_code 9 = .ok (.iload_n 1, 1) := by decide +kernel
theorem d_mmn_10 : decode jdk_29_method_69_code 10 = .ok (.ireturn, 1) := by decide +kernel
theorem ef_mmn (m : MethodId) (x : Int32) (y : Int32) : entryFrame m #[(.int x), (.int y)] 2 = mkF m 0 #[.val (.int x), .val (.int y)] [] := by first | (simp [entryFrame, mkF, argsToLocals, Value.category]; done) | rfl
def Q_mmn (Z : State) (x : Int32) (y : Int32) (h0 : Heap) (n0 : Nat) (v : Option Value) (h : Heap) (L : List Loc) : Prop := v = some (.int y) ∧ Fr n0 L ∧ h = h0
set_option maxRecDepth 65536 in
set_option maxHeartbeats 40000000 in
theorem rm_mmn (l : Launch) (Z : State) (aT : Array Value) (hw : ∀ d ∈ tables_1, d.before aT Z = true) (ws : List Jvm.Cond) (x : Int32) (y : Int32) (h0 : Heap) (n0 : Nat) (Z0 : n0 ≤ h0.size) (hxy : y < x) :
    MetFree l (⟨"java/lang/Math", "min", "(II)I"⟩ : MethodName) (head1 (Jvm.Cond.code (⟨"java/lang/Math", "min", "(II)I"⟩ : MethodName) jdk_29_method_69_code 2 (some .int) :: ws) ({ frames := 0, cells := 0, slots := 0, locals := 0 } : Room)) (fun a U => a = #[(.int x), (.int y)] ∧ Z.Warmed39 U.vm ∧ U.heap = h0) (fun _ _ _ _ _ => True) (fun _ U o U' => ∃ v L, o = .returned v ∧ Q_mmn Z x y h0 n0 v U'.heap L ∧ FrameEnd U o U' L ({ frames := 0, cells := 0, slots := 0, locals := 0 } : Room).cells ({ frames := 0, cells := 0, slots := 0, locals := 0 } : Room).slots) := by
  refine MetFree.of_bodySF (by decide +kernel) hisR ?_
  intro p e s m args below meth c s₁ Bd hml0 hP hK
  obtain ⟨rfl, hZ, hh⟩ := hP
  have hx := Bd.exec
  have hby := Bd.bytes
  have hml : c.maxLocals = 2 := hml0
  have hown : s.vm.findClass "java/lang/Math" = some m.cls := findClass_of_methodNamed Bd.named
  have hnm := (name_of_methodNamed Bd.named Bd.method).1
  have hlk := Bd.notSynchronized
  have hrt := Bd.returns
  have X0 : Stand p l e ({ frames := 0, cells := 0, slots := 0, locals := 0 } : Room) s m #[(.int x), (.int y)] below meth c s₁ [] 0 0 := Stand.of_body Bd
  have e0 : s₁.heap = h0 := by rw [← hh, Bd.state]; rfl
  have N0 := Fr.nil n0
  refine own_cast (P := own_End s (Q_mmn Z x y h0 n0) ({ frames := 0, cells := 0, slots := 0, locals := 0 } : Room).cells ({ frames := 0, cells := 0, slots := 0, locals := 0 } : Room).slots) (ef_mmn m x y) ?_
  refine g_iloadN X0 hx hby d_mmn_0 rfl (rfl : 0 + 1 = 1) ?_
  refine g_iloadN X0 hx hby d_mmn_1 rfl (rfl : 1 + 1 = 2) ?_
  refine g_icT X0 hx hby d_mmn_2 (tlt hxy).2.2.1 (by decide) (pc' := 9) (by decide) ?_
  refine g_iloadN X0 hx hby d_mmn_9 rfl (rfl : 9 + 1 = 10) ?_
  refine own_retI X0 hx hby hlk hrt d_mmn_10 (by decide) (by decide) ?_
  show Q_mmn Z x y h0 n0 _ s₁.heap _
  exact ⟨rfl, N0, e0⟩
theorem d_crb_0 : decode jdk_65_method_133_code 0 = .ok (.iload_n 1, 1) := by decide +kernel
theorem d_crb_1 : decode jdk_65_method_133_code 1 = .ok (.iload_n 2, 1) := by decide +kernel
theorem d_crb_2 : decode jdk_65_method_133_code 2 = .ok (.invokestatic 343, 3) := by decide +kernel
theorem d_crb_5 : decode jdk_65_method_133_code 5 = .ok (.iload_n 2, 1) := by decide +kernel
theorem d_crb_6 : decode jdk_65_method_133_code 6 = .ok (.iload_n 1, 1) := by decide +kernel
theorem d_crb_7 : decode jdk_65_method_133_code 7 = .ok (.isub, 1) := by decide +kernel
theorem d_crb_8 : decode jdk_65_method_133_code 8 = .ok (.istore_n 3, 1) := by decide +kernel
theorem d_crb_9 : decode jdk_65_method_133_code 9 = .ok (.iload_n 3, 1) := by decide +kernel
theorem d_crb_10 : decode jdk_65_method_133_code 10 = .ok (.newarray .byte, 2) := by decide +kernel
theorem d_crb_12 : decode jdk_65_method_133_code 12 = .ok (.astore 4, 2) := by decide +kernel
theorem d_crb_14 : decode jdk_65_method_133_code 14 = .ok (.aload_n 0, 1) := by decide +kernel
theorem d_crb_15 : decode jdk_65_method_133_code 15 = .ok (.iload_n 1, 1) := by decide +kernel
theorem d_crb_16 : decode jdk_65_method_133_code 16 = .ok (.aload 4, 2) := by decide +kernel
theorem d_crb_18 : decode jdk_65_method_133_code 18 = .ok (.iconst 0, 1) := by decide +kernel
theorem d_crb_19 : decode jdk_65_method_133_code 19 = .ok (.aload_n 0, 1) := by decide +kernel
theorem d_crb_20 : decode jdk_65_method_133_code 20 = .ok (.arraylength, 1) := by decide +kernel
theorem d_crb_21 : decode jdk_65_method_133_code 21 = .ok (.iload_n 1, 1) := by decide +kernel
theorem d_crb_22 : decode jdk_65_method_133_code 22 = .ok (.isub, 1) := by decide +kernel
theorem d_crb_23 : decode jdk_65_method_133_code 23 = .ok (.iload_n 3, 1) := by decide +kernel
theorem d_crb_24 : decode jdk_65_method_133_code 24 = .ok (.invokestatic 304, 3) := by decide +kernel
theorem d_crb_27 : decode jdk_65_method_133_code 27 = .ok (.invokestatic 150, 3) := by decide +kernel
theorem d_crb_30 : decode jdk_65_method_133_code 30 = .ok (.aload 4, 2) := by decide +kernel
theorem d_crb_32 : decode jdk_65_method_133_code 32 = .ok (.areturn, 1) := by decide +kernel
theorem pd18 : parseMethodDescriptor "(II)V" = some ⟨[.int, .int], none⟩ := by decide +kernel
theorem pd19 : parseMethodDescriptor "(II)I" = some ⟨[.int, .int], some .int⟩ := by decide +kernel
theorem ef_crb (m : MethodId) (vb : Addr) (ct : Int32) : entryFrame m #[(.ref vb), (.int (0 : Int32)), (.int ct)] 5 = mkF m 0 #[.val (.ref vb), .val (.int (0 : Int32)), .val (.int ct), .unset, .unset] [] := by first | (simp [entryFrame, mkF, argsToLocals, Value.category]; done) | rfl
def Q_crb (Z : State) (vb : Addr) (ct : Int32) (kv : ClassId) (vv : List Value) (h0 : Heap) (n0 : Nat) (v : Option Value) (h : Heap) (L : List Loc) : Prop := ∃ (oz : Addr), v = some (.ref oz) ∧ Fr n0 L ∧ Keep h0 h [] ∧ h0.size ≤ oz ∧ Exa Z h oz "[B"
set_option maxRecDepth 65536 in
set_option maxHeartbeats 40000000 in
theorem rm_crb (l : Launch) (Z : State) (aT : Array Value) (hw : ∀ d ∈ tables_1, d.before aT Z = true) (ws : List Jvm.Cond) (vb : Addr) (ct : Int32) (kv : ClassId) (vv : List Value) (h0 : Heap) (n0 : Nat) (Z0 : n0 ≤ h0.size) (hp0 : Arv Z h0 vb kv .byte (16 : Int32) vv (.int (0 : Int32))) (h17 : own_17 ct) :
    MetFree l (⟨"java/util/Arrays", "copyOfRangeByte", "([BII)[B"⟩ : MethodName) (head1 (Jvm.Cond.code (⟨"java/util/Arrays", "copyOfRangeByte", "([BII)[B"⟩ : MethodName) jdk_65_method_133_code 5 (some (.array .byte)) :: ws) ({ frames := 1, cells := 1, slots := 7, locals := 27 } : Room)) (fun a U => a = #[(.ref vb), (.int (0 : Int32)), (.int ct)] ∧ Z.Warmed39 U.vm ∧ U.heap = h0) (fun _ _ _ _ _ => True) (fun _ U o U' => ∃ v L, o = .returned v ∧ Q_crb Z vb ct kv vv h0 n0 v U'.heap L ∧ FrameEnd U o U' L ({ frames := 1, cells := 1, slots := 7, locals := 27 } : Room).cells ({ frames := 1, cells := 1, slots := 7, locals := 27 } : Room).slots) := by
  refine MetFree.of_bodySF (plainFor_of_name pn8) hisR ?_
  intro p e s m args below meth c s₁ Bd hml0 hP hK
  obtain ⟨rfl, hZ, hh⟩ := hP
  have hx := Bd.exec
  have hby := Bd.bytes
  have hml : c.maxLocals = 5 := hml0
  have hown : s.vm.findClass "java/util/Arrays" = some m.cls := findClass_of_methodNamed Bd.named
  have hnm := (name_of_methodNamed Bd.named Bd.method).1
  have hlk := Bd.notSynchronized
  have hrt := Bd.returns
  have X0 : Stand p l e ({ frames := 1, cells := 1, slots := 7, locals := 27 } : Room) s m #[(.ref vb), (.int (0 : Int32)), (.int ct)] below meth c s₁ [] 0 0 := Stand.of_body Bd
  have e0 : s₁.heap = h0 := by rw [← hh, Bd.state]; rfl
  have N0 := Fr.nil n0
  refine own_cast (P := own_End s (Q_crb Z vb ct kv vv h0 n0) ({ frames := 1, cells := 1, slots := 7, locals := 27 } : Room).cells ({ frames := 1, cells := 1, slots := 7, locals := 27 } : Room).slots) (ef_crb m vb ct) ?_
  rcases h17 with hk400 | hk400 | hk400 | hk400 | hk400 | hk400 | hk400
  · rw [hk400]
    refine g_iloadN X0 hx hby d_crb_0 rfl (rfl : 0 + 1 = 1) ?_
    refine g_iloadN X0 hx hby d_crb_1 rfl (rfl : 1 + 1 = 2) ?_
    obtain ⟨_, _, ⟨T401, L401, k401, n401⟩, -, X401, ⟨Lc401, hQ401, l401, y401, z401⟩, st401⟩ := Jvm.LawKit.callS X0 hx (y := (⟨"java/util/Arrays", "checkLength", "(II)V"⟩ : MethodName)) hown (mvT hZ (hw _ (List.mem_of_getElem? (i := 195) rfl))) (mvT hZ (hw _ (List.mem_of_getElem? (i := 196) rfl))) (mvT hZ (hw _ (List.mem_of_getElem? (i := 190) rfl))) (mvT hZ (hw _ (List.mem_of_getElem? (i := 197) rfl))) (by decide) (backOf (W := 0) (rm_ckl l Z aT hw [] (0 : Int32) (1 : Int32) h0 n0 Z0 (by decide)) hZ (hw _ (List.mem_of_getElem? (i := 197) rfl)) (hw _ (List.mem_of_getElem? (i := 190) rfl)) (by decide) (by decide)) (g := (mkF m 2 #[.val (.ref vb), .val (.int (0 : Int32)), .val (.int (1 : Int32)), .unset, .unset] [(.int (1 : Int32)), (.int (0 : Int32))])) rfl (by rw [hml]; rfl) (argsL := [(.int (0 : Int32)), (.int (1 : Int32))]) (rest := []) (lenOf pd18 rfl) rfl (by show 2 * 0 + _ ≤ _; exact Nat.le_of_eq rfl) (hb hby d_crb_2) (fun _ _ => ⟨rfl, e0, (by decide : 0 + 0 ≤ _), (by decide : 0 + 0 ≤ _)⟩)
    dsimp only [Pt.U, Pt.locs, Pt.cells, Pt.slots] at X401 l401 y401 z401 st401 hQ401
    subst l401 y401 z401
    obtain ⟨rfl, N401q, eq401⟩ := hQ401
    have N401 := Fr.app N0 N401q
    refine own_go st401 ?_
    show own_Got p e below _ T401 (mkF m 5 #[.val (.ref vb), .val (.int (0 : Int32)), .val (.int (1 : Int32)), .unset, .unset] [])
    refine g_iloadN X401 hx hby d_crb_5 rfl (rfl : 5 + 1 = 6) ?_
    refine g_iloadN X401 hx hby d_crb_6 rfl (rfl : 6 + 1 = 7) ?_
    refine g_isub X401 hx hby d_crb_7 (rfl : 7 + 1 = 8) ?_
    rw [(by decide : ((1 : Int32) - (0 : Int32)) = (1 : Int32))]
    refine g_istoreN X401 hx hby #[.val (.ref vb), .val (.int (0 : Int32)), .val (.int (1 : Int32)), .val (.int (1 : Int32)), .unset] d_crb_8 rfl (rfl : 8 + 1 = 9) ?_
    refine g_iloadN X401 hx hby d_crb_9 rfl (rfl : 9 + 1 = 10) ?_
    obtain ⟨T402, h402, k402, X402, e402, E402, A402, B402, st402⟩ := newPE X401 hx hZ (hw _ (List.mem_of_getElem? (i := 22) rfl)) eq401 (g := (mkF m 10 #[.val (.ref vb), .val (.int (0 : Int32)), .val (.int (1 : Int32)), .val (.int (1 : Int32)), .unset] [(.int (1 : Int32))])) rfl (hb hby d_crb_10) rfl (by decide) (cap := 1) (by decide) (by decide) (by decide) (by decide) (ad := "[B") (by decide +kernel)
    obtain ⟨b402, g402⟩ : ∃ z, z = h0.size := ⟨_, rfl⟩
    rw [← g402] at A402 B402 st402
    have ne403 : vb ≠ b402 := Nat.ne_of_lt (Nat.lt_of_lt_of_le (hp0).lt (Nat.le_of_eq g402.symm))
    have Z402 : n0 ≤ h402.size := Nat.le_trans Z0 E402.1
    have K402 : Keep h0 h402 [] := (Keep.refl h0 []).ext E402
    have ge402 : n0 ≤ b402 := Nat.le_trans Z0 (Nat.le_of_eq g402.symm)
    have sz402 : h0.size ≤ b402 := Nat.le_trans (Keep.refl h0 []).1 (Nat.le_of_eq g402.symm)
    have V402 : Arv Z h402 b402 k402 .byte (1 : Int32) [(.int (0 : Int32))] (.int (0 : Int32)) := (Arv.new A402 (by decide)).pad (pad_rep [] _ 1)
    refine own_go st402 ?_
    show own_Got p e below _ T402 (mkF m 12 #[.val (.ref vb), .val (.int (0 : Int32)), .val (.int (1 : Int32)), .val (.int (1 : Int32)), .unset] [(.ref b402)])
    refine g_astore X402 hx hby #[.val (.ref vb), .val (.int (0 : Int32)), .val (.int (1 : Int32)), .val (.int (1 : Int32)), .val (.ref b402)] d_crb_12 rfl rfl (rfl : 12 + 2 = 14) ?_
    refine g_aloadN X402 hx hby d_crb_14 rfl rfl (rfl : 14 + 1 = 15) ?_
    refine g_iloadN X402 hx hby d_crb_15 rfl (rfl : 15 + 1 = 16) ?_
    refine g_aload X402 hx hby d_crb_16 rfl rfl (rfl : 16 + 2 = 18) ?_
    refine g_iconst X402 hx hby (0 : Int32) d_crb_18 (by decide) (rfl : 18 + 1 = 19) ?_
    refine g_aloadN X402 hx hby d_crb_19 rfl rfl (rfl : 19 + 1 = 20) ?_
    have f404 : Arv Z h402 vb kv .byte (16 : Int32) vv (.int (0 : Int32)) := (hp0.ext E402)
    refine g_alen X402 hx hby hZ e402 f404 d_crb_20 (rfl : 20 + 1 = 21) ?_
    refine g_iloadN X402 hx hby d_crb_21 rfl (rfl : 21 + 1 = 22) ?_
    refine g_isub X402 hx hby d_crb_22 (rfl : 22 + 1 = 23) ?_
    rw [(by decide : ((16 : Int32) - (0 : Int32)) = (16 : Int32))]
    refine g_iloadN X402 hx hby d_crb_23 rfl (rfl : 23 + 1 = 24) ?_
    obtain ⟨_, _, ⟨T405, L405, k405, n405⟩, -, X405, ⟨Lc405, hQ405, l405, y405, z405⟩, st405⟩ := Jvm.LawKit.callS X402 hx (y := (⟨"java/lang/Math", "min", "(II)I"⟩ : MethodName)) hown (mvT hZ (hw _ (List.mem_of_getElem? (i := 198) rfl))) (mvT hZ (hw _ (List.mem_of_getElem? (i := 199) rfl))) (mvT hZ (hw _ (List.mem_of_getElem? (i := 200) rfl))) (mvT hZ (hw _ (List.mem_of_getElem? (i := 201) rfl))) (by decide) (backOf (W := 4) (rm_mmn l Z aT hw [] (16 : Int32) (1 : Int32) h402 n0 Z402 (by decide)) hZ (hw _ (List.mem_of_getElem? (i := 201) rfl)) (hw _ (List.mem_of_getElem? (i := 200) rfl)) (by decide) (by decide)) (g := (mkF m 24 #[.val (.ref vb), .val (.int (0 : Int32)), .val (.int (1 : Int32)), .val (.int (1 : Int32)), .val (.ref b402)] [(.int (1 : Int32)), (.int (16 : Int32)), (.int (0 : Int32)), (.ref b402), (.int (0 : Int32)), (.ref vb)])) rfl (by rw [hml]; rfl) (argsL := [(.int (16 : Int32)), (.int (1 : Int32))]) (rest := [(.int (0 : Int32)), (.ref b402), (.int (0 : Int32)), (.ref vb)]) (lenOf pd19 rfl) rfl (by show 2 * 0 + _ ≤ _; exact Nat.le_of_eq rfl) (hb hby d_crb_24) (fun _ _ => ⟨rfl, e402, (by decide : 1 + 0 ≤ _), (by decide : 1 + 0 ≤ _)⟩)
    dsimp only [Pt.U, Pt.locs, Pt.cells, Pt.slots] at X405 l405 y405 z405 st405 hQ405
    subst l405 y405 z405
    obtain ⟨rfl, N405q, eq405⟩ := hQ405
    have N405 := Fr.app N401 N405q
    refine own_go st405 ?_
    show own_Got p e below _ T405 (mkF m 27 #[.val (.ref vb), .val (.int (0 : Int32)), .val (.int (1 : Int32)), .val (.int (1 : Int32)), .val (.ref b402)] [(.int (1 : Int32)), (.int (0 : Int32)), (.ref b402), (.int (0 : Int32)), (.ref vb)])
    obtain ⟨T406, h406, L406, X406, e406, N406, K406, V406, st406⟩ := cpA X405 hx hZ hown (hw _ (List.mem_of_getElem? (i := 202) rfl)) (hw _ (List.mem_of_getElem? (i := 144) rfl)) (hw _ (List.mem_of_getElem? (i := 142) rfl)) (hw _ (List.mem_of_getElem? (i := 143) rfl)) eq405 f404 V402 (Or.inl ⟨rfl, rfl⟩) (by decide) (by decide) (by decide) (by decide) (by decide) rfl (by decide) N405 ge402 (g := (mkF m 27 #[.val (.ref vb), .val (.int (0 : Int32)), .val (.int (1 : Int32)), .val (.int (1 : Int32)), .val (.ref b402)] [(.int (1 : Int32)), (.int (0 : Int32)), (.ref b402), (.int (0 : Int32)), (.ref vb)])) rfl (by rw [hml]; rfl) (rest := []) rfl (hb hby d_crb_27) (by decide) (W := 0) (by show 2 * 0 + _ ≤ _; exact Nat.le_of_eq rfl) (by decide)
    obtain ⟨vq406, lq406, Vq406⟩ : ∃ vq : List Value, vq.length = 1 ∧ Arv Z h406 b402 k402 .byte (1 : Int32) vq (.int (0 : Int32)) := ⟨_, (by simp), V406⟩
    have Z406 : n0 ≤ h406.size := Nat.le_trans Z402 K406.1
    have KC406 : Keep h0 h406 [] := K402.trans K406 (allS (Or.inr sz402) all0)
    refine own_go st406 ?_
    show own_Got p e below _ T406 (mkF m 30 #[.val (.ref vb), .val (.int (0 : Int32)), .val (.int (1 : Int32)), .val (.int (1 : Int32)), .val (.ref b402)] [])
    refine g_aload X406 hx hby d_crb_30 rfl rfl (rfl : 30 + 2 = 32) ?_
    have f407 : Exa Z h406 b402 "[B" := (Exa.keep B402 K406)
    refine own_retR X406 hx hby hlk hrt rfl d_crb_32 (by decide) (by decide) rfl ?_
    show Q_crb Z vb ct kv vv h0 n0 _ T406.heap _
    rw [e406]
    exact ⟨b402, rfl, N406, KC406, sz402, f407⟩
  · rw [hk400]
    refine g_iloadN X0 hx hby d_crb_0 rfl (rfl : 0 + 1 = 1) ?_
    refine g_iloadN X0 hx hby d_crb_1 rfl (rfl : 1 + 1 = 2) ?_
    obtain ⟨_, _, ⟨T408, L408, k408, n408⟩, -, X408, ⟨Lc408, hQ408, l408, y408, z408⟩, st408⟩ := Jvm.LawKit.callS X0 hx (y := (⟨"java/util/Arrays", "checkLength", "(II)V"⟩ : MethodName)) hown (mvT hZ (hw _ (List.mem_of_getElem? (i := 195) rfl))) (mvT hZ (hw _ (List.mem_of_getElem? (i := 196) rfl))) (mvT hZ (hw _ (List.mem_of_getElem? (i := 190) rfl))) (mvT hZ (hw _ (List.mem_of_getElem? (i := 197) rfl))) (by decide) (backOf (W := 0) (rm_ckl l Z aT hw [] (0 : Int32) (2 : Int32) h0 n0 Z0 (by decide)) hZ (hw _ (List.mem_of_getElem? (i := 197) rfl)) (hw _ (List.mem_of_getElem? (i := 190) rfl)) (by decide) (by decide)) (g := (mkF m 2 #[.val (.ref vb), .val (.int (0 : Int32)), .val (.int (2 : Int32)), .unset, .unset] [(.int (2 : Int32)), (.int (0 : Int32))])) rfl (by rw [hml]; rfl) (argsL := [(.int (0 : Int32)), (.int (2 : Int32))]) (rest := []) (lenOf pd18 rfl) rfl (by show 2 * 0 + _ ≤ _; exact Nat.le_of_eq rfl) (hb hby d_crb_2) (fun _ _ => ⟨rfl, e0, (by decide : 0 + 0 ≤ _), (by decide : 0 + 0 ≤ _)⟩)
    dsimp only [Pt.U, Pt.locs, Pt.cells, Pt.slots] at X408 l408 y408 z408 st408 hQ408
    subst l408 y408 z408
    obtain ⟨rfl, N408q, eq408⟩ := hQ408
    have N408 := Fr.app N0 N408q
    refine own_go st408 ?_
    show own_Got p e below _ T408 (mkF m 5 #[.val (.ref vb), .val (.int (0 : Int32)), .val (.int (2 : Int32)), .unset, .unset] [])
    refine g_iloadN X408 hx hby d_crb_5 rfl (rfl : 5 + 1 = 6) ?_
    refine g_iloadN X408 hx hby d_crb_6 rfl (rfl : 6 + 1 = 7) ?_
    refine g_isub X408 hx hby d_crb_7 (rfl : 7 + 1 = 8) ?_
    rw [(by decide : ((2 : Int32) - (0 : Int32)) = (2 : Int32))]
    refine g_istoreN X408 hx hby #[.val (.ref vb), .val (.int (0 : Int32)), .val (.int (2 : Int32)), .val (.int (2 : Int32)), .unset] d_crb_8 rfl (rfl : 8 + 1 = 9) ?_
    refine g_iloadN X408 hx hby d_crb_9 rfl (rfl : 9 + 1 = 10) ?_
    obtain ⟨T409, h409, k409, X409, e409, E409, A409, B409, st409⟩ := newPE X408 hx hZ (hw _ (List.mem_of_getElem? (i := 22) rfl)) eq408 (g := (mkF m 10 #[.val (.ref vb), .val (.int (0 : Int32)), .val (.int (2 : Int32)), .val (.int (2 : Int32)), .unset] [(.int (2 : Int32))])) rfl (hb hby d_crb_10) rfl (by decide) (cap := 2) (by decide) (by decide) (by decide) (by decide) (ad := "[B") (by decide +kernel)
    obtain ⟨b409, g409⟩ : ∃ z, z = h0.size := ⟨_, rfl⟩
    rw [← g409] at A409 B409 st409
    have ne410 : vb ≠ b409 := Nat.ne_of_lt (Nat.lt_of_lt_of_le (hp0).lt (Nat.le_of_eq g409.symm))
    have Z409 : n0 ≤ h409.size := Nat.le_trans Z0 E409.1
    have K409 : Keep h0 h409 [] := (Keep.refl h0 []).ext E409
    have ge409 : n0 ≤ b409 := Nat.le_trans Z0 (Nat.le_of_eq g409.symm)
    have sz409 : h0.size ≤ b409 := Nat.le_trans (Keep.refl h0 []).1 (Nat.le_of_eq g409.symm)
    have V409 : Arv Z h409 b409 k409 .byte (2 : Int32) [(.int (0 : Int32)), (.int (0 : Int32))] (.int (0 : Int32)) := (Arv.new A409 (by decide)).pad (pad_rep [] _ 2)
    refine own_go st409 ?_
    show own_Got p e below _ T409 (mkF m 12 #[.val (.ref vb), .val (.int (0 : Int32)), .val (.int (2 : Int32)), .val (.int (2 : Int32)), .unset] [(.ref b409)])
    refine g_astore X409 hx hby #[.val (.ref vb), .val (.int (0 : Int32)), .val (.int (2 : Int32)), .val (.int (2 : Int32)), .val (.ref b409)] d_crb_12 rfl rfl (rfl : 12 + 2 = 14) ?_
    refine g_aloadN X409 hx hby d_crb_14 rfl rfl (rfl : 14 + 1 = 15) ?_
    refine g_iloadN X409 hx hby d_crb_15 rfl (rfl : 15 + 1 = 16) ?_
    refine g_aload X409 hx hby d_crb_16 rfl rfl (rfl : 16 + 2 = 18) ?_
    refine g_iconst X409 hx hby (0 : Int32) d_crb_18 (by decide) (rfl : 18 + 1 = 19) ?_
    refine g_aloadN X409 hx hby d_crb_19 rfl rfl (rfl : 19 + 1 = 20) ?_
    have f411 : Arv Z h409 vb kv .byte (16 : Int32) vv (.int (0 : Int32)) := (hp0.ext E409)
    refine g_alen X409 hx hby hZ e409 f411 d_crb_20 (rfl : 20 + 1 = 21) ?_
    refine g_iloadN X409 hx hby d_crb_21 rfl (rfl : 21 + 1 = 22) ?_
    refine g_isub X409 hx hby d_crb_22 (rfl : 22 + 1 = 23) ?_
    rw [(by decide : ((16 : Int32) - (0 : Int32)) = (16 : Int32))]
    refine g_iloadN X409 hx hby d_crb_23 rfl (rfl : 23 + 1 = 24) ?_
    obtain ⟨_, _, ⟨T412, L412, k412, n412⟩, -, X412, ⟨Lc412, hQ412, l412, y412, z412⟩, st412⟩ := Jvm.LawKit.callS X409 hx (y := (⟨"java/lang/Math", "min", "(II)I"⟩ : MethodName)) hown (mvT hZ (hw _ (List.mem_of_getElem? (i := 198) rfl))) (mvT hZ (hw _ (List.mem_of_getElem? (i := 199) rfl))) (mvT hZ (hw _ (List.mem_of_getElem? (i := 200) rfl))) (mvT hZ (hw _ (List.mem_of_getElem? (i := 201) rfl))) (by decide) (backOf (W := 4) (rm_mmn l Z aT hw [] (16 : Int32) (2 : Int32) h409 n0 Z409 (by decide)) hZ (hw _ (List.mem_of_getElem? (i := 201) rfl)) (hw _ (List.mem_of_getElem? (i := 200) rfl)) (by decide) (by decide)) (g := (mkF m 24 #[.val (.ref vb), .val (.int (0 : Int32)), .val (.int (2 : Int32)), .val (.int (2 : Int32)), .val (.ref b409)] [(.int (2 : Int32)), (.int (16 : Int32)), (.int (0 : Int32)), (.ref b409), (.int (0 : Int32)), (.ref vb)])) rfl (by rw [hml]; rfl) (argsL := [(.int (16 : Int32)), (.int (2 : Int32))]) (rest := [(.int (0 : Int32)), (.ref b409), (.int (0 : Int32)), (.ref vb)]) (lenOf pd19 rfl) rfl (by show 2 * 0 + _ ≤ _; exact Nat.le_of_eq rfl) (hb hby d_crb_24) (fun _ _ => ⟨rfl, e409, (by decide : 1 + 0 ≤ _), (by decide : 2 + 0 ≤ _)⟩)
    dsimp only [Pt.U, Pt.locs, Pt.cells, Pt.slots] at X412 l412 y412 z412 st412 hQ412
    subst l412 y412 z412
    obtain ⟨rfl, N412q, eq412⟩ := hQ412
    have N412 := Fr.app N408 N412q
    refine own_go st412 ?_
    show own_Got p e below _ T412 (mkF m 27 #[.val (.ref vb), .val (.int (0 : Int32)), .val (.int (2 : Int32)), .val (.int (2 : Int32)), .val (.ref b409)] [(.int (2 : Int32)), (.int (0 : Int32)), (.ref b409), (.int (0 : Int32)), (.ref vb)])
    obtain ⟨T413, h413, L413, X413, e413, N413, K413, V413, st413⟩ := cpA X412 hx hZ hown (hw _ (List.mem_of_getElem? (i := 202) rfl)) (hw _ (List.mem_of_getElem? (i := 144) rfl)) (hw _ (List.mem_of_getElem? (i := 142) rfl)) (hw _ (List.mem_of_getElem? (i := 143) rfl)) eq412 f411 V409 (Or.inl ⟨rfl, rfl⟩) (by decide) (by decide) (by decide) (by decide) (by decide) rfl (by decide) N412 ge409 (g := (mkF m 27 #[.val (.ref vb), .val (.int (0 : Int32)), .val (.int (2 : Int32)), .val (.int (2 : Int32)), .val (.ref b409)] [(.int (2 : Int32)), (.int (0 : Int32)), (.ref b409), (.int (0 : Int32)), (.ref vb)])) rfl (by rw [hml]; rfl) (rest := []) rfl (hb hby d_crb_27) (by decide) (W := 0) (by show 2 * 0 + _ ≤ _; exact Nat.le_of_eq rfl) (by decide)
    obtain ⟨vq413, lq413, Vq413⟩ : ∃ vq : List Value, vq.length = 2 ∧ Arv Z h413 b409 k409 .byte (2 : Int32) vq (.int (0 : Int32)) := ⟨_, (by simp), V413⟩
    have Z413 : n0 ≤ h413.size := Nat.le_trans Z409 K413.1
    have KC413 : Keep h0 h413 [] := K409.trans K413 (allS (Or.inr sz409) all0)
    refine own_go st413 ?_
    show own_Got p e below _ T413 (mkF m 30 #[.val (.ref vb), .val (.int (0 : Int32)), .val (.int (2 : Int32)), .val (.int (2 : Int32)), .val (.ref b409)] [])
    refine g_aload X413 hx hby d_crb_30 rfl rfl (rfl : 30 + 2 = 32) ?_
    have f414 : Exa Z h413 b409 "[B" := (Exa.keep B409 K413)
    refine own_retR X413 hx hby hlk hrt rfl d_crb_32 (by decide) (by decide) rfl ?_
    show Q_crb Z vb ct kv vv h0 n0 _ T413.heap _
    rw [e413]
    exact ⟨b409, rfl, N413, KC413, sz409, f414⟩
  · rw [hk400]
    refine g_iloadN X0 hx hby d_crb_0 rfl (rfl : 0 + 1 = 1) ?_
    refine g_iloadN X0 hx hby d_crb_1 rfl (rfl : 1 + 1 = 2) ?_
    obtain ⟨_, _, ⟨T415, L415, k415, n415⟩, -, X415, ⟨Lc415, hQ415, l415, y415, z415⟩, st415⟩ := Jvm.LawKit.callS X0 hx (y := (⟨"java/util/Arrays", "checkLength", "(II)V"⟩ : MethodName)) hown (mvT hZ (hw _ (List.mem_of_getElem? (i := 195) rfl))) (mvT hZ (hw _ (List.mem_of_getElem? (i := 196) rfl))) (mvT hZ (hw _ (List.mem_of_getElem? (i := 190) rfl))) (mvT hZ (hw _ (List.mem_of_getElem? (i := 197) rfl))) (by decide) (backOf (W := 0) (rm_ckl l Z aT hw [] (0 : Int32) (3 : Int32) h0 n0 Z0 (by decide)) hZ (hw _ (List.mem_of_getElem? (i := 197) rfl)) (hw _ (List.mem_of_getElem? (i := 190) rfl)) (by decide) (by decide)) (g := (mkF m 2 #[.val (.ref vb), .val (.int (0 : Int32)), .val (.int (3 : Int32)), .unset, .unset] [(.int (3 : Int32)), (.int (0 : Int32))])) rfl (by rw [hml]; rfl) (argsL := [(.int (0 : Int32)), (.int (3 : Int32))]) (rest := []) (lenOf pd18 rfl) rfl (by show 2 * 0 + _ ≤ _; exact Nat.le_of_eq rfl) (hb hby d_crb_2) (fun _ _ => ⟨rfl, e0, (by decide : 0 + 0 ≤ _), (by decide : 0 + 0 ≤ _)⟩)
    dsimp only [Pt.U, Pt.locs, Pt.cells, Pt.slots] at X415 l415 y415 z415 st415 hQ415
    subst l415 y415 z415
    obtain ⟨rfl, N415q, eq415⟩ := hQ415
    have N415 := Fr.app N0 N415q
    refine own_go st415 ?_
    show own_Got p e below _ T415 (mkF m 5 #[.val (.ref vb), .val (.int (0 : Int32)), .val (.int (3 : Int32)), .unset, .unset] [])
    refine g_iloadN X415 hx hby d_crb_5 rfl (rfl : 5 + 1 = 6) ?_
    refine g_iloadN X415 hx hby d_crb_6 rfl (rfl : 6 + 1 = 7) ?_
    refine g_isub X415 hx hby d_crb_7 (rfl : 7 + 1 = 8) ?_
    rw [(by decide : ((3 : Int32) - (0 : Int32)) = (3 : Int32))]
    refine g_istoreN X415 hx hby #[.val (.ref vb), .val (.int (0 : Int32)), .val (.int (3 : Int32)), .val (.int (3 : Int32)), .unset] d_crb_8 rfl (rfl : 8 + 1 = 9) ?_
    refine g_iloadN X415 hx hby d_crb_9 rfl (rfl : 9 + 1 = 10) ?_
    obtain ⟨T416, h416, k416, X416, e416, E416, A416, B416, st416⟩ := newPE X415 hx hZ (hw _ (List.mem_of_getElem? (i := 22) rfl)) eq415 (g := (mkF m 10 #[.val (.ref vb), .val (.int (0 : Int32)), .val (.int (3 : Int32)), .val (.int (3 : Int32)), .unset] [(.int (3 : Int32))])) rfl (hb hby d_crb_10) rfl (by decide) (cap := 3) (by decide) (by decide) (by decide) (by decide) (ad := "[B") (by decide +kernel)
    obtain ⟨b416, g416⟩ : ∃ z, z = h0.size := ⟨_, rfl⟩
    rw [← g416] at A416 B416 st416
    have ne417 : vb ≠ b416 := Nat.ne_of_lt (Nat.lt_of_lt_of_le (hp0).lt (Nat.le_of_eq g416.symm))
    have Z416 : n0 ≤ h416.size := Nat.le_trans Z0 E416.1
    have K416 : Keep h0 h416 [] := (Keep.refl h0 []).ext E416
    have ge416 : n0 ≤ b416 := Nat.le_trans Z0 (Nat.le_of_eq g416.symm)
    have sz416 : h0.size ≤ b416 := Nat.le_trans (Keep.refl h0 []).1 (Nat.le_of_eq g416.symm)
    have V416 : Arv Z h416 b416 k416 .byte (3 : Int32) [(.int (0 : Int32)), (.int (0 : Int32)), (.int (0 : Int32))] (.int (0 : Int32)) := (Arv.new A416 (by decide)).pad (pad_rep [] _ 3)
    refine own_go st416 ?_
    show own_Got p e below _ T416 (mkF m 12 #[.val (.ref vb), .val (.int (0 : Int32)), .val (.int (3 : Int32)), .val (.int (3 : Int32)), .unset] [(.ref b416)])
    refine g_astore X416 hx hby #[.val (.ref vb), .val (.int (0 : Int32)), .val (.int (3 : Int32)), .val (.int (3 : Int32)), .val (.ref b416)] d_crb_12 rfl rfl (rfl : 12 + 2 = 14) ?_
    refine g_aloadN X416 hx hby d_crb_14 rfl rfl (rfl : 14 + 1 = 15) ?_
    refine g_iloadN X416 hx hby d_crb_15 rfl (rfl : 15 + 1 = 16) ?_
    refine g_aload X416 hx hby d_crb_16 rfl rfl (rfl : 16 + 2 = 18) ?_
    refine g_iconst X416 hx hby (0 : Int32) d_crb_18 (by decide) (rfl : 18 + 1 = 19) ?_
    refine g_aloadN X416 hx hby d_crb_19 rfl rfl (rfl : 19 + 1 = 20) ?_
    have f418 : Arv Z h416 vb kv .byte (16 : Int32) vv (.int (0 : Int32)) := (hp0.ext E416)
    refine g_alen X416 hx hby hZ e416 f418 d_crb_20 (rfl : 20 + 1 = 21) ?_
    refine g_iloadN X416 hx hby d_crb_21 rfl (rfl : 21 + 1 = 22) ?_
    refine g_isub X416 hx hby d_crb_22 (rfl : 22 + 1 = 23) ?_
    rw [(by decide : ((16 : Int32) - (0 : Int32)) = (16 : Int32))]
    refine g_iloadN X416 hx hby d_crb_23 rfl (rfl : 23 + 1 = 24) ?_
    obtain ⟨_, _, ⟨T419, L419, k419, n419⟩, -, X419, ⟨Lc419, hQ419, l419, y419, z419⟩, st419⟩ := Jvm.LawKit.callS X416 hx (y := (⟨"java/lang/Math", "min", "(II)I"⟩ : MethodName)) hown (mvT hZ (hw _ (List.mem_of_getElem? (i := 198) rfl))) (mvT hZ (hw _ (List.mem_of_getElem? (i := 199) rfl))) (mvT hZ (hw _ (List.mem_of_getElem? (i := 200) rfl))) (mvT hZ (hw _ (List.mem_of_getElem? (i := 201) rfl))) (by decide) (backOf (W := 4) (rm_mmn l Z aT hw [] (16 : Int32) (3 : Int32) h416 n0 Z416 (by decide)) hZ (hw _ (List.mem_of_getElem? (i := 201) rfl)) (hw _ (List.mem_of_getElem? (i := 200) rfl)) (by decide) (by decide)) (g := (mkF m 24 #[.val (.ref vb), .val (.int (0 : Int32)), .val (.int (3 : Int32)), .val (.int (3 : Int32)), .val (.ref b416)] [(.int (3 : Int32)), (.int (16 : Int32)), (.int (0 : Int32)), (.ref b416), (.int (0 : Int32)), (.ref vb)])) rfl (by rw [hml]; rfl) (argsL := [(.int (16 : Int32)), (.int (3 : Int32))]) (rest := [(.int (0 : Int32)), (.ref b416), (.int (0 : Int32)), (.ref vb)]) (lenOf pd19 rfl) rfl (by show 2 * 0 + _ ≤ _; exact Nat.le_of_eq rfl) (hb hby d_crb_24) (fun _ _ => ⟨rfl, e416, (by decide : 1 + 0 ≤ _), (by decide : 3 + 0 ≤ _)⟩)
    dsimp only [Pt.U, Pt.locs, Pt.cells, Pt.slots] at X419 l419 y419 z419 st419 hQ419
    subst l419 y419 z419
    obtain ⟨rfl, N419q, eq419⟩ := hQ419
    have N419 := Fr.app N415 N419q
    refine own_go st419 ?_
    show own_Got p e below _ T419 (mkF m 27 #[.val (.ref vb), .val (.int (0 : Int32)), .val (.int (3 : Int32)), .val (.int (3 : Int32)), .val (.ref b416)] [(.int (3 : Int32)), (.int (0 : Int32)), (.ref b416), (.int (0 : Int32)), (.ref vb)])
    obtain ⟨T420, h420, L420, X420, e420, N420, K420, V420, st420⟩ := cpA X419 hx hZ hown (hw _ (List.mem_of_getElem? (i := 202) rfl)) (hw _ (List.mem_of_getElem? (i := 144) rfl)) (hw _ (List.mem_of_getElem? (i := 142) rfl)) (hw _ (List.mem_of_getElem? (i := 143) rfl)) eq419 f418 V416 (Or.inl ⟨rfl, rfl⟩) (by decide) (by decide) (by decide) (by decide) (by decide) rfl (by decide) N419 ge416 (g := (mkF m 27 #[.val (.ref vb), .val (.int (0 : Int32)), .val (.int (3 : Int32)), .val (.int (3 : Int32)), .val (.ref b416)] [(.int (3 : Int32)), (.int (0 : Int32)), (.ref b416), (.int (0 : Int32)), (.ref vb)])) rfl (by rw [hml]; rfl) (rest := []) rfl (hb hby d_crb_27) (by decide) (W := 0) (by show 2 * 0 + _ ≤ _; exact Nat.le_of_eq rfl) (by decide)
    obtain ⟨vq420, lq420, Vq420⟩ : ∃ vq : List Value, vq.length = 3 ∧ Arv Z h420 b416 k416 .byte (3 : Int32) vq (.int (0 : Int32)) := ⟨_, (by simp), V420⟩
    have Z420 : n0 ≤ h420.size := Nat.le_trans Z416 K420.1
    have KC420 : Keep h0 h420 [] := K416.trans K420 (allS (Or.inr sz416) all0)
    refine own_go st420 ?_
    show own_Got p e below _ T420 (mkF m 30 #[.val (.ref vb), .val (.int (0 : Int32)), .val (.int (3 : Int32)), .val (.int (3 : Int32)), .val (.ref b416)] [])
    refine g_aload X420 hx hby d_crb_30 rfl rfl (rfl : 30 + 2 = 32) ?_
    have f421 : Exa Z h420 b416 "[B" := (Exa.keep B416 K420)
    refine own_retR X420 hx hby hlk hrt rfl d_crb_32 (by decide) (by decide) rfl ?_
    show Q_crb Z vb ct kv vv h0 n0 _ T420.heap _
    rw [e420]
    exact ⟨b416, rfl, N420, KC420, sz416, f421⟩
  · rw [hk400]
    refine g_iloadN X0 hx hby d_crb_0 rfl (rfl : 0 + 1 = 1) ?_
    refine g_iloadN X0 hx hby d_crb_1 rfl (rfl : 1 + 1 = 2) ?_
    obtain ⟨_, _, ⟨T422, L422, k422, n422⟩, -, X422, ⟨Lc422, hQ422, l422, y422, z422⟩, st422⟩ := Jvm.LawKit.callS X0 hx (y := (⟨"java/util/Arrays", "checkLength", "(II)V"⟩ : MethodName)) hown (mvT hZ (hw _ (List.mem_of_getElem? (i := 195) rfl))) (mvT hZ (hw _ (List.mem_of_getElem? (i := 196) rfl))) (mvT hZ (hw _ (List.mem_of_getElem? (i := 190) rfl))) (mvT hZ (hw _ (List.mem_of_getElem? (i := 197) rfl))) (by decide) (backOf (W := 0) (rm_ckl l Z aT hw [] (0 : Int32) (4 : Int32) h0 n0 Z0 (by decide)) hZ (hw _ (List.mem_of_getElem? (i := 197) rfl)) (hw _ (List.mem_of_getElem? (i := 190) rfl)) (by decide) (by decide)) (g := (mkF m 2 #[.val (.ref vb), .val (.int (0 : Int32)), .val (.int (4 : Int32)), .unset, .unset] [(.int (4 : Int32)), (.int (0 : Int32))])) rfl (by rw [hml]; rfl) (argsL := [(.int (0 : Int32)), (.int (4 : Int32))]) (rest := []) (lenOf pd18 rfl) rfl (by show 2 * 0 + _ ≤ _; exact Nat.le_of_eq rfl) (hb hby d_crb_2) (fun _ _ => ⟨rfl, e0, (by decide : 0 + 0 ≤ _), (by decide : 0 + 0 ≤ _)⟩)
    dsimp only [Pt.U, Pt.locs, Pt.cells, Pt.slots] at X422 l422 y422 z422 st422 hQ422
    subst l422 y422 z422
    obtain ⟨rfl, N422q, eq422⟩ := hQ422
    have N422 := Fr.app N0 N422q
    refine own_go st422 ?_
    show own_Got p e below _ T422 (mkF m 5 #[.val (.ref vb), .val (.int (0 : Int32)), .val (.int (4 : Int32)), .unset, .unset] [])
    refine g_iloadN X422 hx hby d_crb_5 rfl (rfl : 5 + 1 = 6) ?_
    refine g_iloadN X422 hx hby d_crb_6 rfl (rfl : 6 + 1 = 7) ?_
    refine g_isub X422 hx hby d_crb_7 (rfl : 7 + 1 = 8) ?_
    rw [(by decide : ((4 : Int32) - (0 : Int32)) = (4 : Int32))]
    refine g_istoreN X422 hx hby #[.val (.ref vb), .val (.int (0 : Int32)), .val (.int (4 : Int32)), .val (.int (4 : Int32)), .unset] d_crb_8 rfl (rfl : 8 + 1 = 9) ?_
    refine g_iloadN X422 hx hby d_crb_9 rfl (rfl : 9 + 1 = 10) ?_
    obtain ⟨T423, h423, k423, X423, e423, E423, A423, B423, st423⟩ := newPE X422 hx hZ (hw _ (List.mem_of_getElem? (i := 22) rfl)) eq422 (g := (mkF m 10 #[.val (.ref vb), .val (.int (0 : Int32)), .val (.int (4 : Int32)), .val (.int (4 : Int32)), .unset] [(.int (4 : Int32))])) rfl (hb hby d_crb_10) rfl (by decide) (cap := 4) (by decide) (by decide) (by decide) (by decide) (ad := "[B") (by decide +kernel)
    obtain ⟨b423, g423⟩ : ∃ z, z = h0.size := ⟨_, rfl⟩
    rw [← g423] at A423 B423 st423
    have ne424 : vb ≠ b423 := Nat.ne_of_lt (Nat.lt_of_lt_of_le (hp0).lt (Nat.le_of_eq g423.symm))
    have Z423 : n0 ≤ h423.size := Nat.le_trans Z0 E423.1
    have K423 : Keep h0 h423 [] := (Keep.refl h0 []).ext E423
    have ge423 : n0 ≤ b423 := Nat.le_trans Z0 (Nat.le_of_eq g423.symm)
    have sz423 : h0.size ≤ b423 := Nat.le_trans (Keep.refl h0 []).1 (Nat.le_of_eq g423.symm)
    have V423 : Arv Z h423 b423 k423 .byte (4 : Int32) [(.int (0 : Int32)), (.int (0 : Int32)), (.int (0 : Int32)), (.int (0 : Int32))] (.int (0 : Int32)) := (Arv.new A423 (by decide)).pad (pad_rep [] _ 4)
    refine own_go st423 ?_
    show own_Got p e below _ T423 (mkF m 12 #[.val (.ref vb), .val (.int (0 : Int32)), .val (.int (4 : Int32)), .val (.int (4 : Int32)), .unset] [(.ref b423)])
    refine g_astore X423 hx hby #[.val (.ref vb), .val (.int (0 : Int32)), .val (.int (4 : Int32)), .val (.int (4 : Int32)), .val (.ref b423)] d_crb_12 rfl rfl (rfl : 12 + 2 = 14) ?_
    refine g_aloadN X423 hx hby d_crb_14 rfl rfl (rfl : 14 + 1 = 15) ?_
    refine g_iloadN X423 hx hby d_crb_15 rfl (rfl : 15 + 1 = 16) ?_
    refine g_aload X423 hx hby d_crb_16 rfl rfl (rfl : 16 + 2 = 18) ?_
    refine g_iconst X423 hx hby (0 : Int32) d_crb_18 (by decide) (rfl : 18 + 1 = 19) ?_
    refine g_aloadN X423 hx hby d_crb_19 rfl rfl (rfl : 19 + 1 = 20) ?_
    have f425 : Arv Z h423 vb kv .byte (16 : Int32) vv (.int (0 : Int32)) := (hp0.ext E423)
    refine g_alen X423 hx hby hZ e423 f425 d_crb_20 (rfl : 20 + 1 = 21) ?_
    refine g_iloadN X423 hx hby d_crb_21 rfl (rfl : 21 + 1 = 22) ?_
    refine g_isub X423 hx hby d_crb_22 (rfl : 22 + 1 = 23) ?_
    rw [(by decide : ((16 : Int32) - (0 : Int32)) = (16 : Int32))]
    refine g_iloadN X423 hx hby d_crb_23 rfl (rfl : 23 + 1 = 24) ?_
    obtain ⟨_, _, ⟨T426, L426, k426, n426⟩, -, X426, ⟨Lc426, hQ426, l426, y426, z426⟩, st426⟩ := Jvm.LawKit.callS X423 hx (y := (⟨"java/lang/Math", "min", "(II)I"⟩ : MethodName)) hown (mvT hZ (hw _ (List.mem_of_getElem? (i := 198) rfl))) (mvT hZ (hw _ (List.mem_of_getElem? (i := 199) rfl))) (mvT hZ (hw _ (List.mem_of_getElem? (i := 200) rfl))) (mvT hZ (hw _ (List.mem_of_getElem? (i := 201) rfl))) (by decide) (backOf (W := 4) (rm_mmn l Z aT hw [] (16 : Int32) (4 : Int32) h423 n0 Z423 (by decide)) hZ (hw _ (List.mem_of_getElem? (i := 201) rfl)) (hw _ (List.mem_of_getElem? (i := 200) rfl)) (by decide) (by decide)) (g := (mkF m 24 #[.val (.ref vb), .val (.int (0 : Int32)), .val (.int (4 : Int32)), .val (.int (4 : Int32)), .val (.ref b423)] [(.int (4 : Int32)), (.int (16 : Int32)), (.int (0 : Int32)), (.ref b423), (.int (0 : Int32)), (.ref vb)])) rfl (by rw [hml]; rfl) (argsL := [(.int (16 : Int32)), (.int (4 : Int32))]) (rest := [(.int (0 : Int32)), (.ref b423), (.int (0 : Int32)), (.ref vb)]) (lenOf pd19 rfl) rfl (by show 2 * 0 + _ ≤ _; exact Nat.le_of_eq rfl) (hb hby d_crb_24) (fun _ _ => ⟨rfl, e423, (by decide : 1 + 0 ≤ _), (by decide : 4 + 0 ≤ _)⟩)
    dsimp only [Pt.U, Pt.locs, Pt.cells, Pt.slots] at X426 l426 y426 z426 st426 hQ426
    subst l426 y426 z426
    obtain ⟨rfl, N426q, eq426⟩ := hQ426
    have N426 := Fr.app N422 N426q
    refine own_go st426 ?_
    show own_Got p e below _ T426 (mkF m 27 #[.val (.ref vb), .val (.int (0 : Int32)), .val (.int (4 : Int32)), .val (.int (4 : Int32)), .val (.ref b423)] [(.int (4 : Int32)), (.int (0 : Int32)), (.ref b423), (.int (0 : Int32)), (.ref vb)])
    obtain ⟨T427, h427, L427, X427, e427, N427, K427, V427, st427⟩ := cpA X426 hx hZ hown (hw _ (List.mem_of_getElem? (i := 202) rfl)) (hw _ (List.mem_of_getElem? (i := 144) rfl)) (hw _ (List.mem_of_getElem? (i := 142) rfl)) (hw _ (List.mem_of_getElem? (i := 143) rfl)) eq426 f425 V423 (Or.inl ⟨rfl, rfl⟩) (by decide) (by decide) (by decide) (by decide) (by decide) rfl (by decide) N426 ge423 (g := (mkF m 27 #[.val (.ref vb), .val (.int (0 : Int32)), .val (.int (4 : Int32)), .val (.int (4 : Int32)), .val (.ref b423)] [(.int (4 : Int32)), (.int (0 : Int32)), (.ref b423), (.int (0 : Int32)), (.ref vb)])) rfl (by rw [hml]; rfl) (rest := []) rfl (hb hby d_crb_27) (by decide) (W := 0) (by show 2 * 0 + _ ≤ _; exact Nat.le_of_eq rfl) (by decide)
    obtain ⟨vq427, lq427, Vq427⟩ : ∃ vq : List Value, vq.length = 4 ∧ Arv Z h427 b423 k423 .byte (4 : Int32) vq (.int (0 : Int32)) := ⟨_, (by simp), V427⟩
    have Z427 : n0 ≤ h427.size := Nat.le_trans Z423 K427.1
    have KC427 : Keep h0 h427 [] := K423.trans K427 (allS (Or.inr sz423) all0)
    refine own_go st427 ?_
    show own_Got p e below _ T427 (mkF m 30 #[.val (.ref vb), .val (.int (0 : Int32)), .val (.int (4 : Int32)), .val (.int (4 : Int32)), .val (.ref b423)] [])
    refine g_aload X427 hx hby d_crb_30 rfl rfl (rfl : 30 + 2 = 32) ?_
    have f428 : Exa Z h427 b423 "[B" := (Exa.keep B423 K427)
    refine own_retR X427 hx hby hlk hrt rfl d_crb_32 (by decide) (by decide) rfl ?_
    show Q_crb Z vb ct kv vv h0 n0 _ T427.heap _
    rw [e427]
    exact ⟨b423, rfl, N427, KC427, sz423, f428⟩
  · rw [hk400]
    refine g_iloadN X0 hx hby d_crb_0 rfl (rfl : 0 + 1 = 1) ?_
    refine g_iloadN X0 hx hby d_crb_1 rfl (rfl : 1 + 1 = 2) ?_
    obtain ⟨_, _, ⟨T429, L429, k429, n429⟩, -, X429, ⟨Lc429, hQ429, l429, y429, z429⟩, st429⟩ := Jvm.LawKit.callS X0 hx (y := (⟨"java/util/Arrays", "checkLength", "(II)V"⟩ : MethodName)) hown (mvT hZ (hw _ (List.mem_of_getElem? (i := 195) rfl))) (mvT hZ (hw _ (List.mem_of_getElem? (i := 196) rfl))) (mvT hZ (hw _ (List.mem_of_getElem? (i := 190) rfl))) (mvT hZ (hw _ (List.mem_of_getElem? (i := 197) rfl))) (by decide) (backOf (W := 0) (rm_ckl l Z aT hw [] (0 : Int32) (5 : Int32) h0 n0 Z0 (by decide)) hZ (hw _ (List.mem_of_getElem? (i := 197) rfl)) (hw _ (List.mem_of_getElem? (i := 190) rfl)) (by decide) (by decide)) (g := (mkF m 2 #[.val (.ref vb), .val (.int (0 : Int32)), .val (.int (5 : Int32)), .unset, .unset] [(.int (5 : Int32)), (.int (0 : Int32))])) rfl (by rw [hml]; rfl) (argsL := [(.int (0 : Int32)), (.int (5 : Int32))]) (rest := []) (lenOf pd18 rfl) rfl (by show 2 * 0 + _ ≤ _; exact Nat.le_of_eq rfl) (hb hby d_crb_2) (fun _ _ => ⟨rfl, e0, (by decide : 0 + 0 ≤ _), (by decide : 0 + 0 ≤ _)⟩)
    dsimp only [Pt.U, Pt.locs, Pt.cells, Pt.slots] at X429 l429 y429 z429 st429 hQ429
    subst l429 y429 z429
    obtain ⟨rfl, N429q, eq429⟩ := hQ429
    have N429 := Fr.app N0 N429q
    refine own_go st429 ?_
    show own_Got p e below _ T429 (mkF m 5 #[.val (.ref vb), .val (.int (0 : Int32)), .val (.int (5 : Int32)), .unset, .unset] [])
    refine g_iloadN X429 hx hby d_crb_5 rfl (rfl : 5 + 1 = 6) ?_
    refine g_iloadN X429 hx hby d_crb_6 rfl (rfl : 6 + 1 = 7) ?_
    refine g_isub X429 hx hby d_crb_7 (rfl : 7 + 1 = 8) ?_
    rw [(by decide : ((5 : Int32) - (0 : Int32)) = (5 : Int32))]
    refine g_istoreN X429 hx hby #[.val (.ref vb), .val (.int (0 : Int32)), .val (.int (5 : Int32)), .val (.int (5 : Int32)), .unset] d_crb_8 rfl (rfl : 8 + 1 = 9) ?_
    refine g_iloadN X429 hx hby d_crb_9 rfl (rfl : 9 + 1 = 10) ?_
    obtain ⟨T430, h430, k430, X430, e430, E430, A430, B430, st430⟩ := newPE X429 hx hZ (hw _ (List.mem_of_getElem? (i := 22) rfl)) eq429 (g := (mkF m 10 #[.val (.ref vb), .val (.int (0 : Int32)), .val (.int (5 : Int32)), .val (.int (5 : Int32)), .unset] [(.int (5 : Int32))])) rfl (hb hby d_crb_10) rfl (by decide) (cap := 5) (by decide) (by decide) (by decide) (by decide) (ad := "[B") (by decide +kernel)
    obtain ⟨b430, g430⟩ : ∃ z, z = h0.size := ⟨_, rfl⟩
    rw [← g430] at A430 B430 st430
    have ne431 : vb ≠ b430 := Nat.ne_of_lt (Nat.lt_of_lt_of_le (hp0).lt (Nat.le_of_eq g430.symm))
    have Z430 : n0 ≤ h430.size := Nat.le_trans Z0 E430.1
    have K430 : Keep h0 h430 [] := (Keep.refl h0 []).ext E430
    have ge430 : n0 ≤ b430 := Nat.le_trans Z0 (Nat.le_of_eq g430.symm)
    have sz430 : h0.size ≤ b430 := Nat.le_trans (Keep.refl h0 []).1 (Nat.le_of_eq g430.symm)
    have V430 : Arv Z h430 b430 k430 .byte (5 : Int32) [(.int (0 : Int32)), (.int (0 : Int32)), (.int (0 : Int32)), (.int (0 : Int32)), (.int (0 : Int32))] (.int (0 : Int32)) := (Arv.new A430 (by decide)).pad (pad_rep [] _ 5)
    refine own_go st430 ?_
    show own_Got p e below _ T430 (mkF m 12 #[.val (.ref vb), .val (.int (0 : Int32)), .val (.int (5 : Int32)), .val (.int (5 : Int32)), .unset] [(.ref b430)])
    refine g_astore X430 hx hby #[.val (.ref vb), .val (.int (0 : Int32)), .val (.int (5 : Int32)), .val (.int (5 : Int32)), .val (.ref b430)] d_crb_12 rfl rfl (rfl : 12 + 2 = 14) ?_
    refine g_aloadN X430 hx hby d_crb_14 rfl rfl (rfl : 14 + 1 = 15) ?_
    refine g_iloadN X430 hx hby d_crb_15 rfl (rfl : 15 + 1 = 16) ?_
    refine g_aload X430 hx hby d_crb_16 rfl rfl (rfl : 16 + 2 = 18) ?_
    refine g_iconst X430 hx hby (0 : Int32) d_crb_18 (by decide) (rfl : 18 + 1 = 19) ?_
    refine g_aloadN X430 hx hby d_crb_19 rfl rfl (rfl : 19 + 1 = 20) ?_
    have f432 : Arv Z h430 vb kv .byte (16 : Int32) vv (.int (0 : Int32)) := (hp0.ext E430)
    refine g_alen X430 hx hby hZ e430 f432 d_crb_20 (rfl : 20 + 1 = 21) ?_
    refine g_iloadN X430 hx hby d_crb_21 rfl (rfl : 21 + 1 = 22) ?_
    refine g_isub X430 hx hby d_crb_22 (rfl : 22 + 1 = 23) ?_
    rw [(by decide : ((16 : Int32) - (0 : Int32)) = (16 : Int32))]
    refine g_iloadN X430 hx hby d_crb_23 rfl (rfl : 23 + 1 = 24) ?_
    obtain ⟨_, _, ⟨T433, L433, k433, n433⟩, -, X433, ⟨Lc433, hQ433, l433, y433, z433⟩, st433⟩ := Jvm.LawKit.callS X430 hx (y := (⟨"java/lang/Math", "min", "(II)I"⟩ : MethodName)) hown (mvT hZ (hw _ (List.mem_of_getElem? (i := 198) rfl))) (mvT hZ (hw _ (List.mem_of_getElem? (i := 199) rfl))) (mvT hZ (hw _ (List.mem_of_getElem? (i := 200) rfl))) (mvT hZ (hw _ (List.mem_of_getElem? (i := 201) rfl))) (by decide) (backOf (W := 4) (rm_mmn l Z aT hw [] (16 : Int32) (5 : Int32) h430 n0 Z430 (by decide)) hZ (hw _ (List.mem_of_getElem? (i := 201) rfl)) (hw _ (List.mem_of_getElem? (i := 200) rfl)) (by decide) (by decide)) (g := (mkF m 24 #[.val (.ref vb), .val (.int (0 : Int32)), .val (.int (5 : Int32)), .val (.int (5 : Int32)), .val (.ref b430)] [(.int (5 : Int32)), (.int (16 : Int32)), (.int (0 : Int32)), (.ref b430), (.int (0 : Int32)), (.ref vb)])) rfl (by rw [hml]; rfl) (argsL := [(.int (16 : Int32)), (.int (5 : Int32))]) (rest := [(.int (0 : Int32)), (.ref b430), (.int (0 : Int32)), (.ref vb)]) (lenOf pd19 rfl) rfl (by show 2 * 0 + _ ≤ _; exact Nat.le_of_eq rfl) (hb hby d_crb_24) (fun _ _ => ⟨rfl, e430, (by decide : 1 + 0 ≤ _), (by decide : 5 + 0 ≤ _)⟩)
    dsimp only [Pt.U, Pt.locs, Pt.cells, Pt.slots] at X433 l433 y433 z433 st433 hQ433
    subst l433 y433 z433
    obtain ⟨rfl, N433q, eq433⟩ := hQ433
    have N433 := Fr.app N429 N433q
    refine own_go st433 ?_
    show own_Got p e below _ T433 (mkF m 27 #[.val (.ref vb), .val (.int (0 : Int32)), .val (.int (5 : Int32)), .val (.int (5 : Int32)), .val (.ref b430)] [(.int (5 : Int32)), (.int (0 : Int32)), (.ref b430), (.int (0 : Int32)), (.ref vb)])
    obtain ⟨T434, h434, L434, X434, e434, N434, K434, V434, st434⟩ := cpA X433 hx hZ hown (hw _ (List.mem_of_getElem? (i := 202) rfl)) (hw _ (List.mem_of_getElem? (i := 144) rfl)) (hw _ (List.mem_of_getElem? (i := 142) rfl)) (hw _ (List.mem_of_getElem? (i := 143) rfl)) eq433 f432 V430 (Or.inl ⟨rfl, rfl⟩) (by decide) (by decide) (by decide) (by decide) (by decide) rfl (by decide) N433 ge430 (g := (mkF m 27 #[.val (.ref vb), .val (.int (0 : Int32)), .val (.int (5 : Int32)), .val (.int (5 : Int32)), .val (.ref b430)] [(.int (5 : Int32)), (.int (0 : Int32)), (.ref b430), (.int (0 : Int32)), (.ref vb)])) rfl (by rw [hml]; rfl) (rest := []) rfl (hb hby d_crb_27) (by decide) (W := 0) (by show 2 * 0 + _ ≤ _; exact Nat.le_of_eq rfl) (by decide)
    obtain ⟨vq434, lq434, Vq434⟩ : ∃ vq : List Value, vq.length = 5 ∧ Arv Z h434 b430 k430 .byte (5 : Int32) vq (.int (0 : Int32)) := ⟨_, (by simp), V434⟩
    have Z434 : n0 ≤ h434.size := Nat.le_trans Z430 K434.1
    have KC434 : Keep h0 h434 [] := K430.trans K434 (allS (Or.inr sz430) all0)
    refine own_go st434 ?_
    show own_Got p e below _ T434 (mkF m 30 #[.val (.ref vb), .val (.int (0 : Int32)), .val (.int (5 : Int32)), .val (.int (5 : Int32)), .val (.ref b430)] [])
    refine g_aload X434 hx hby d_crb_30 rfl rfl (rfl : 30 + 2 = 32) ?_
    have f435 : Exa Z h434 b430 "[B" := (Exa.keep B430 K434)
    refine own_retR X434 hx hby hlk hrt rfl d_crb_32 (by decide) (by decide) rfl ?_
    show Q_crb Z vb ct kv vv h0 n0 _ T434.heap _
    rw [e434]
    exact ⟨b430, rfl, N434, KC434, sz430, f435⟩
  · rw [hk400]
    refine g_iloadN X0 hx hby d_crb_0 rfl (rfl : 0 + 1 = 1) ?_
    refine g_iloadN X0 hx hby d_crb_1 rfl (rfl : 1 + 1 = 2) ?_
    obtain ⟨_, _, ⟨T436, L436, k436, n436⟩, -, X436, ⟨Lc436, hQ436, l436, y436, z436⟩, st436⟩ := Jvm.LawKit.callS X0 hx (y := (⟨"java/util/Arrays", "checkLength", "(II)V"⟩ : MethodName)) hown (mvT hZ (hw _ (List.mem_of_getElem? (i := 195) rfl))) (mvT hZ (hw _ (List.mem_of_getElem? (i := 196) rfl))) (mvT hZ (hw _ (List.mem_of_getElem? (i := 190) rfl))) (mvT hZ (hw _ (List.mem_of_getElem? (i := 197) rfl))) (by decide) (backOf (W := 0) (rm_ckl l Z aT hw [] (0 : Int32) (6 : Int32) h0 n0 Z0 (by decide)) hZ (hw _ (List.mem_of_getElem? (i := 197) rfl)) (hw _ (List.mem_of_getElem? (i := 190) rfl)) (by decide) (by decide)) (g := (mkF m 2 #[.val (.ref vb), .val (.int (0 : Int32)), .val (.int (6 : Int32)), .unset, .unset] [(.int (6 : Int32)), (.int (0 : Int32))])) rfl (by rw [hml]; rfl) (argsL := [(.int (0 : Int32)), (.int (6 : Int32))]) (rest := []) (lenOf pd18 rfl) rfl (by show 2 * 0 + _ ≤ _; exact Nat.le_of_eq rfl) (hb hby d_crb_2) (fun _ _ => ⟨rfl, e0, (by decide : 0 + 0 ≤ _), (by decide : 0 + 0 ≤ _)⟩)
    dsimp only [Pt.U, Pt.locs, Pt.cells, Pt.slots] at X436 l436 y436 z436 st436 hQ436
    subst l436 y436 z436
    obtain ⟨rfl, N436q, eq436⟩ := hQ436
    have N436 := Fr.app N0 N436q
    refine own_go st436 ?_
    show own_Got p e below _ T436 (mkF m 5 #[.val (.ref vb), .val (.int (0 : Int32)), .val (.int (6 : Int32)), .unset, .unset] [])
    refine g_iloadN X436 hx hby d_crb_5 rfl (rfl : 5 + 1 = 6) ?_
    refine g_iloadN X436 hx hby d_crb_6 rfl (rfl : 6 + 1 = 7) ?_
    refine g_isub X436 hx hby d_crb_7 (rfl : 7 + 1 = 8) ?_
    rw [(by decide : ((6 : Int32) - (0 : Int32)) = (6 : Int32))]
    refine g_istoreN X436 hx hby #[.val (.ref vb), .val (.int (0 : Int32)), .val (.int (6 : Int32)), .val (.int (6 : Int32)), .unset] d_crb_8 rfl (rfl : 8 + 1 = 9) ?_
    refine g_iloadN X436 hx hby d_crb_9 rfl (rfl : 9 + 1 = 10) ?_
    obtain ⟨T437, h437, k437, X437, e437, E437, A437, B437, st437⟩ := newPE X436 hx hZ (hw _ (List.mem_of_getElem? (i := 22) rfl)) eq436 (g := (mkF m 10 #[.val (.ref vb), .val (.int (0 : Int32)), .val (.int (6 : Int32)), .val (.int (6 : Int32)), .unset] [(.int (6 : Int32))])) rfl (hb hby d_crb_10) rfl (by decide) (cap := 6) (by decide) (by decide) (by decide) (by decide) (ad := "[B") (by decide +kernel)
    obtain ⟨b437, g437⟩ : ∃ z, z = h0.size := ⟨_, rfl⟩
    rw [← g437] at A437 B437 st437
    have ne438 : vb ≠ b437 := Nat.ne_of_lt (Nat.lt_of_lt_of_le (hp0).lt (Nat.le_of_eq g437.symm))
    have Z437 : n0 ≤ h437.size := Nat.le_trans Z0 E437.1
    have K437 : Keep h0 h437 [] := (Keep.refl h0 []).ext E437
    have ge437 : n0 ≤ b437 := Nat.le_trans Z0 (Nat.le_of_eq g437.symm)
    have sz437 : h0.size ≤ b437 := Nat.le_trans (Keep.refl h0 []).1 (Nat.le_of_eq g437.symm)
    have V437 : Arv Z h437 b437 k437 .byte (6 : Int32) [(.int (0 : Int32)), (.int (0 : Int32)), (.int (0 : Int32)), (.int (0 : Int32)), (.int (0 : Int32)), (.int (0 : Int32))] (.int (0 : Int32)) := (Arv.new A437 (by decide)).pad (pad_rep [] _ 6)
    refine own_go st437 ?_
    show own_Got p e below _ T437 (mkF m 12 #[.val (.ref vb), .val (.int (0 : Int32)), .val (.int (6 : Int32)), .val (.int (6 : Int32)), .unset] [(.ref b437)])
    refine g_astore X437 hx hby #[.val (.ref vb), .val (.int (0 : Int32)), .val (.int (6 : Int32)), .val (.int (6 : Int32)), .val (.ref b437)] d_crb_12 rfl rfl (rfl : 12 + 2 = 14) ?_
    refine g_aloadN X437 hx hby d_crb_14 rfl rfl (rfl : 14 + 1 = 15) ?_
    refine g_iloadN X437 hx hby d_crb_15 rfl (rfl : 15 + 1 = 16) ?_
    refine g_aload X437 hx hby d_crb_16 rfl rfl (rfl : 16 + 2 = 18) ?_
    refine g_iconst X437 hx hby (0 : Int32) d_crb_18 (by decide) (rfl : 18 + 1 = 19) ?_
    refine g_aloadN X437 hx hby d_crb_19 rfl rfl (rfl : 19 + 1 = 20) ?_
    have f439 : Arv Z h437 vb kv .byte (16 : Int32) vv (.int (0 : Int32)) := (hp0.ext E437)
    refine g_alen X437 hx hby hZ e437 f439 d_crb_20 (rfl : 20 + 1 = 21) ?_
    refine g_iloadN X437 hx hby d_crb_21 rfl (rfl : 21 + 1 = 22) ?_
    refine g_isub X437 hx hby d_crb_22 (rfl : 22 + 1 = 23) ?_
    rw [(by decide : ((16 : Int32) - (0 : Int32)) = (16 : Int32))]
    refine g_iloadN X437 hx hby d_crb_23 rfl (rfl : 23 + 1 = 24) ?_
    obtain ⟨_, _, ⟨T440, L440, k440, n440⟩, -, X440, ⟨Lc440, hQ440, l440, y440, z440⟩, st440⟩ := Jvm.LawKit.callS X437 hx (y := (⟨"java/lang/Math", "min", "(II)I"⟩ : MethodName)) hown (mvT hZ (hw _ (List.mem_of_getElem? (i := 198) rfl))) (mvT hZ (hw _ (List.mem_of_getElem? (i := 199) rfl))) (mvT hZ (hw _ (List.mem_of_getElem? (i := 200) rfl))) (mvT hZ (hw _ (List.mem_of_getElem? (i := 201) rfl))) (by decide) (backOf (W := 4) (rm_mmn l Z aT hw [] (16 : Int32) (6 : Int32) h437 n0 Z437 (by decide)) hZ (hw _ (List.mem_of_getElem? (i := 201) rfl)) (hw _ (List.mem_of_getElem? (i := 200) rfl)) (by decide) (by decide)) (g := (mkF m 24 #[.val (.ref vb), .val (.int (0 : Int32)), .val (.int (6 : Int32)), .val (.int (6 : Int32)), .val (.ref b437)] [(.int (6 : Int32)), (.int (16 : Int32)), (.int (0 : Int32)), (.ref b437), (.int (0 : Int32)), (.ref vb)])) rfl (by rw [hml]; rfl) (argsL := [(.int (16 : Int32)), (.int (6 : Int32))]) (rest := [(.int (0 : Int32)), (.ref b437), (.int (0 : Int32)), (.ref vb)]) (lenOf pd19 rfl) rfl (by show 2 * 0 + _ ≤ _; exact Nat.le_of_eq rfl) (hb hby d_crb_24) (fun _ _ => ⟨rfl, e437, (by decide : 1 + 0 ≤ _), (by decide : 6 + 0 ≤ _)⟩)
    dsimp only [Pt.U, Pt.locs, Pt.cells, Pt.slots] at X440 l440 y440 z440 st440 hQ440
    subst l440 y440 z440
    obtain ⟨rfl, N440q, eq440⟩ := hQ440
    have N440 := Fr.app N436 N440q
    refine own_go st440 ?_
    show own_Got p e below _ T440 (mkF m 27 #[.val (.ref vb), .val (.int (0 : Int32)), .val (.int (6 : Int32)), .val (.int (6 : Int32)), .val (.ref b437)] [(.int (6 : Int32)), (.int (0 : Int32)), (.ref b437), (.int (0 : Int32)), (.ref vb)])
    obtain ⟨T441, h441, L441, X441, e441, N441, K441, V441, st441⟩ := cpA X440 hx hZ hown (hw _ (List.mem_of_getElem? (i := 202) rfl)) (hw _ (List.mem_of_getElem? (i := 144) rfl)) (hw _ (List.mem_of_getElem? (i := 142) rfl)) (hw _ (List.mem_of_getElem? (i := 143) rfl)) eq440 f439 V437 (Or.inl ⟨rfl, rfl⟩) (by decide) (by decide) (by decide) (by decide) (by decide) rfl (by decide) N440 ge437 (g := (mkF m 27 #[.val (.ref vb), .val (.int (0 : Int32)), .val (.int (6 : Int32)), .val (.int (6 : Int32)), .val (.ref b437)] [(.int (6 : Int32)), (.int (0 : Int32)), (.ref b437), (.int (0 : Int32)), (.ref vb)])) rfl (by rw [hml]; rfl) (rest := []) rfl (hb hby d_crb_27) (by decide) (W := 0) (by show 2 * 0 + _ ≤ _; exact Nat.le_of_eq rfl) (by decide)
    obtain ⟨vq441, lq441, Vq441⟩ : ∃ vq : List Value, vq.length = 6 ∧ Arv Z h441 b437 k437 .byte (6 : Int32) vq (.int (0 : Int32)) := ⟨_, (by simp), V441⟩
    have Z441 : n0 ≤ h441.size := Nat.le_trans Z437 K441.1
    have KC441 : Keep h0 h441 [] := K437.trans K441 (allS (Or.inr sz437) all0)
    refine own_go st441 ?_
    show own_Got p e below _ T441 (mkF m 30 #[.val (.ref vb), .val (.int (0 : Int32)), .val (.int (6 : Int32)), .val (.int (6 : Int32)), .val (.ref b437)] [])
    refine g_aload X441 hx hby d_crb_30 rfl rfl (rfl : 30 + 2 = 32) ?_
    have f442 : Exa Z h441 b437 "[B" := (Exa.keep B437 K441)
    refine own_retR X441 hx hby hlk hrt rfl d_crb_32 (by decide) (by decide) rfl ?_
    show Q_crb Z vb ct kv vv h0 n0 _ T441.heap _
    rw [e441]
    exact ⟨b437, rfl, N441, KC441, sz437, f442⟩
  · rw [hk400]
    refine g_iloadN X0 hx hby d_crb_0 rfl (rfl : 0 + 1 = 1) ?_
    refine g_iloadN X0 hx hby d_crb_1 rfl (rfl : 1 + 1 = 2) ?_
    obtain ⟨_, _, ⟨T443, L443, k443, n443⟩, -, X443, ⟨Lc443, hQ443, l443, y443, z443⟩, st443⟩ := Jvm.LawKit.callS X0 hx (y := (⟨"java/util/Arrays", "checkLength", "(II)V"⟩ : MethodName)) hown (mvT hZ (hw _ (List.mem_of_getElem? (i := 195) rfl))) (mvT hZ (hw _ (List.mem_of_getElem? (i := 196) rfl))) (mvT hZ (hw _ (List.mem_of_getElem? (i := 190) rfl))) (mvT hZ (hw _ (List.mem_of_getElem? (i := 197) rfl))) (by decide) (backOf (W := 0) (rm_ckl l Z aT hw [] (0 : Int32) (7 : Int32) h0 n0 Z0 (by decide)) hZ (hw _ (List.mem_of_getElem? (i := 197) rfl)) (hw _ (List.mem_of_getElem? (i := 190) rfl)) (by decide) (by decide)) (g := (mkF m 2 #[.val (.ref vb), .val (.int (0 : Int32)), .val (.int (7 : Int32)), .unset, .unset] [(.int (7 : Int32)), (.int (0 : Int32))])) rfl (by rw [hml]; rfl) (argsL := [(.int (0 : Int32)), (.int (7 : Int32))]) (rest := []) (lenOf pd18 rfl) rfl (by show 2 * 0 + _ ≤ _; exact Nat.le_of_eq rfl) (hb hby d_crb_2) (fun _ _ => ⟨rfl, e0, (by decide : 0 + 0 ≤ _), (by decide : 0 + 0 ≤ _)⟩)
    dsimp only [Pt.U, Pt.locs, Pt.cells, Pt.slots] at X443 l443 y443 z443 st443 hQ443
    subst l443 y443 z443
    obtain ⟨rfl, N443q, eq443⟩ := hQ443
    have N443 := Fr.app N0 N443q
    refine own_go st443 ?_
    show own_Got p e below _ T443 (mkF m 5 #[.val (.ref vb), .val (.int (0 : Int32)), .val (.int (7 : Int32)), .unset, .unset] [])
    refine g_iloadN X443 hx hby d_crb_5 rfl (rfl : 5 + 1 = 6) ?_
    refine g_iloadN X443 hx hby d_crb_6 rfl (rfl : 6 + 1 = 7) ?_
    refine g_isub X443 hx hby d_crb_7 (rfl : 7 + 1 = 8) ?_
    rw [(by decide : ((7 : Int32) - (0 : Int32)) = (7 : Int32))]
    refine g_istoreN X443 hx hby #[.val (.ref vb), .val (.int (0 : Int32)), .val (.int (7 : Int32)), .val (.int (7 : Int32)), .unset] d_crb_8 rfl (rfl : 8 + 1 = 9) ?_
    refine g_iloadN X443 hx hby d_crb_9 rfl (rfl : 9 + 1 = 10) ?_
    obtain ⟨T444, h444, k444, X444, e444, E444, A444, B444, st444⟩ := newPE X443 hx hZ (hw _ (List.mem_of_getElem? (i := 22) rfl)) eq443 (g := (mkF m 10 #[.val (.ref vb), .val (.int (0 : Int32)), .val (.int (7 : Int32)), .val (.int (7 : Int32)), .unset] [(.int (7 : Int32))])) rfl (hb hby d_crb_10) rfl (by decide) (cap := 7) (by decide) (by decide) (by decide) (by decide) (ad := "[B") (by decide +kernel)
    obtain ⟨b444, g444⟩ : ∃ z, z = h0.size := ⟨_, rfl⟩
    rw [← g444] at A444 B444 st444
    have ne445 : vb ≠ b444 := Nat.ne_of_lt (Nat.lt_of_lt_of_le (hp0).lt (Nat.le_of_eq g444.symm))
    have Z444 : n0 ≤ h444.size := Nat.le_trans Z0 E444.1
    have K444 : Keep h0 h444 [] := (Keep.refl h0 []).ext E444
    have ge444 : n0 ≤ b444 := Nat.le_trans Z0 (Nat.le_of_eq g444.symm)
    have sz444 : h0.size ≤ b444 := Nat.le_trans (Keep.refl h0 []).1 (Nat.le_of_eq g444.symm)
    have V444 : Arv Z h444 b444 k444 .byte (7 : Int32) [(.int (0 : Int32)), (.int (0 : Int32)), (.int (0 : Int32)), (.int (0 : Int32)), (.int (0 : Int32)), (.int (0 : Int32)), (.int (0 : Int32))] (.int (0 : Int32)) := (Arv.new A444 (by decide)).pad (pad_rep [] _ 7)
    refine own_go st444 ?_
    show own_Got p e below _ T444 (mkF m 12 #[.val (.ref vb), .val (.int (0 : Int32)), .val (.int (7 : Int32)), .val (.int (7 : Int32)), .unset] [(.ref b444)])
    refine g_astore X444 hx hby #[.val (.ref vb), .val (.int (0 : Int32)), .val (.int (7 : Int32)), .val (.int (7 : Int32)), .val (.ref b444)] d_crb_12 rfl rfl (rfl : 12 + 2 = 14) ?_
    refine g_aloadN X444 hx hby d_crb_14 rfl rfl (rfl : 14 + 1 = 15) ?_
    refine g_iloadN X444 hx hby d_crb_15 rfl (rfl : 15 + 1 = 16) ?_
    refine g_aload X444 hx hby d_crb_16 rfl rfl (rfl : 16 + 2 = 18) ?_
    refine g_iconst X444 hx hby (0 : Int32) d_crb_18 (by decide) (rfl : 18 + 1 = 19) ?_
    refine g_aloadN X444 hx hby d_crb_19 rfl rfl (rfl : 19 + 1 = 20) ?_
    have f446 : Arv Z h444 vb kv .byte (16 : Int32) vv (.int (0 : Int32)) := (hp0.ext E444)
    refine g_alen X444 hx hby hZ e444 f446 d_crb_20 (rfl : 20 + 1 = 21) ?_
    refine g_iloadN X444 hx hby d_crb_21 rfl (rfl : 21 + 1 = 22) ?_
    refine g_isub X444 hx hby d_crb_22 (rfl : 22 + 1 = 23) ?_
    rw [(by decide : ((16 : Int32) - (0 : Int32)) = (16 : Int32))]
    refine g_iloadN X444 hx hby d_crb_23 rfl (rfl : 23 + 1 = 24) ?_
    obtain ⟨_, _, ⟨T447, L447, k447, n447⟩, -, X447, ⟨Lc447, hQ447, l447, y447, z447⟩, st447⟩ := Jvm.LawKit.callS X444 hx (y := (⟨"java/lang/Math", "min", "(II)I"⟩ : MethodName)) hown (mvT hZ (hw _ (List.mem_of_getElem? (i := 198) rfl))) (mvT hZ (hw _ (List.mem_of_getElem? (i := 199) rfl))) (mvT hZ (hw _ (List.mem_of_getElem? (i := 200) rfl))) (mvT hZ (hw _ (List.mem_of_getElem? (i := 201) rfl))) (by decide) (backOf (W := 4) (rm_mmn l Z aT hw [] (16 : Int32) (7 : Int32) h444 n0 Z444 (by decide)) hZ (hw _ (List.mem_of_getElem? (i := 201) rfl)) (hw _ (List.mem_of_getElem? (i := 200) rfl)) (by decide) (by decide)) (g := (mkF m 24 #[.val (.ref vb), .val (.int (0 : Int32)), .val (.int (7 : Int32)), .val (.int (7 : Int32)), .val (.ref b444)] [(.int (7 : Int32)), (.int (16 : Int32)), (.int (0 : Int32)), (.ref b444), (.int (0 : Int32)), (.ref vb)])) rfl (by rw [hml]; rfl) (argsL := [(.int (16 : Int32)), (.int (7 : Int32))]) (rest := [(.int (0 : Int32)), (.ref b444), (.int (0 : Int32)), (.ref vb)]) (lenOf pd19 rfl) rfl (by show 2 * 0 + _ ≤ _; exact Nat.le_of_eq rfl) (hb hby d_crb_24) (fun _ _ => ⟨rfl, e444, (by decide : 1 + 0 ≤ _), (by decide : 7 + 0 ≤ _)⟩)
    dsimp only [Pt.U, Pt.locs, Pt.cells, Pt.slots] at X447 l447 y447 z447 st447 hQ447
    subst l447 y447 z447
    obtain ⟨rfl, N447q, eq447⟩ := hQ447
    have N447 := Fr.app N443 N447q
    refine own_go st447 ?_
    show own_Got p e below _ T447 (mkF m 27 #[.val (.ref vb), .val (.int (0 : Int32)), .val (.int (7 : Int32)), .val (.int (7 : Int32)), .val (.ref b444)] [(.int (7 : Int32)), (.int (0 : Int32)), (.ref b444), (.int (0 : Int32)), (.ref vb)])
    obtain ⟨T448, h448, L448, X448, e448, N448, K448, V448, st448⟩ := cpA X447 hx hZ hown (hw _ (List.mem_of_getElem? (i := 202) rfl)) (hw _ (List.mem_of_getElem? (i := 144) rfl)) (hw _ (List.mem_of_getElem? (i := 142) rfl)) (hw _ (List.mem_of_getElem? (i := 143) rfl)) eq447 f446 V444 (Or.inl ⟨rfl, rfl⟩) (by decide) (by decide) (by decide) (by decide) (by decide) rfl (by decide) N447 ge444 (g := (mkF m 27 #[.val (.ref vb), .val (.int (0 : Int32)), .val (.int (7 : Int32)), .val (.int (7 : Int32)), .val (.ref b444)] [(.int (7 : Int32)), (.int (0 : Int32)), (.ref b444), (.int (0 : Int32)), (.ref vb)])) rfl (by rw [hml]; rfl) (rest := []) rfl (hb hby d_crb_27) (by decide) (W := 0) (by show 2 * 0 + _ ≤ _; exact Nat.le_of_eq rfl) (by decide)
    obtain ⟨vq448, lq448, Vq448⟩ : ∃ vq : List Value, vq.length = 7 ∧ Arv Z h448 b444 k444 .byte (7 : Int32) vq (.int (0 : Int32)) := ⟨_, (by simp), V448⟩
    have Z448 : n0 ≤ h448.size := Nat.le_trans Z444 K448.1
    have KC448 : Keep h0 h448 [] := K444.trans K448 (allS (Or.inr sz444) all0)
    refine own_go st448 ?_
    show own_Got p e below _ T448 (mkF m 30 #[.val (.ref vb), .val (.int (0 : Int32)), .val (.int (7 : Int32)), .val (.int (7 : Int32)), .val (.ref b444)] [])
    refine g_aload X448 hx hby d_crb_30 rfl rfl (rfl : 30 + 2 = 32) ?_
    have f449 : Exa Z h448 b444 "[B" := (Exa.keep B444 K448)
    refine own_retR X448 hx hby hlk hrt rfl d_crb_32 (by decide) (by decide) rfl ?_
    show Q_crb Z vb ct kv vv h0 n0 _ T448.heap _
    rw [e448]
    exact ⟨b444, rfl, N448, KC448, sz444, f449⟩
theorem d_cor_0 : decode jdk_65_method_132_code 0 = .ok (.iload_n 1, 1) := by decide +kernel
theorem d_cor_1 : decode jdk_65_method_132_code 1 = .ok (.ifCond .ne 9, 3) := by decide +kernel
theorem d_cor_4 : decode jdk_65_method_132_code 4 = .ok (.iload_n 2, 1) := by decide +kernel
theorem d_cor_5 : decode jdk_65_method_132_code 5 = .ok (.aload_n 0, 1) := by decide +kernel
theorem d_cor_6 : decode jdk_65_method_132_code 6 = .ok (.arraylength, 1) := by decide +kernel
theorem d_cor_7 : decode jdk_65_method_132_code 7 = .ok (.if_icmp .eq 10, 3) := by decide +kernel
theorem d_cor_10 : decode jdk_65_method_132_code 10 = .ok (.aload_n 0, 1) := by decide +kernel
theorem d_cor_11 : decode jdk_65_method_132_code 11 = .ok (.iload_n 1, 1) := by decide +kernel
theorem d_cor_12 : decode jdk_65_method_132_code 12 = .ok (.iload_n 2, 1) := by decide +kernel
theorem d_cor_13 : decode jdk_65_method_132_code 13 = .ok (.invokestatic 339, 3) := by decide +kernel
theorem d_cor_16 : decode jdk_65_method_132_code 16 = .ok (.areturn, 1) := by decide +kernel
theorem pd20 : parseMethodDescriptor "([BII)[B" = some ⟨[(.array .byte), .int, .int], some (.array .byte)⟩ := by decide +kernel
theorem ef_cor (m : MethodId) (vb : Addr) (ct : Int32) : entryFrame m #[(.ref vb), (.int (0 : Int32)), (.int ct)] 3 = mkF m 0 #[.val (.ref vb), .val (.int (0 : Int32)), .val (.int ct)] [] := by first | (simp [entryFrame, mkF, argsToLocals, Value.category]; done) | rfl
def Q_cor (Z : State) (vb : Addr) (ct : Int32) (kv : ClassId) (vv : List Value) (h0 : Heap) (n0 : Nat) (v : Option Value) (h : Heap) (L : List Loc) : Prop := ∃ (oz : Addr), v = some (.ref oz) ∧ Fr n0 L ∧ Keep h0 h [] ∧ h0.size ≤ oz ∧ Exa Z h oz "[B"
set_option maxRecDepth 65536 in
set_option maxHeartbeats 40000000 in
theorem rm_cor (l : Launch) (Z : State) (aT : Array Value) (hw : ∀ d ∈ tables_1, d.before aT Z = true) (ws : List Jvm.Cond) (vb : Addr) (ct : Int32) (kv : ClassId) (vv : List Value) (h0 : Heap) (n0 : Nat) (Z0 : n0 ≤ h0.size) (hp0 : Arv Z h0 vb kv .byte (16 : Int32) vv (.int (0 : Int32))) (h17 : own_17 ct) :
    MetFree l (⟨"java/util/Arrays", "copyOfRange", "([BII)[B"⟩ : MethodName) (head1 (Jvm.Cond.code (⟨"java/util/Arrays", "copyOfRange", "([BII)[B"⟩ : MethodName) jdk_65_method_132_code 3 (some (.array .byte)) :: ws) ({ frames := 2, cells := 1, slots := 7, locals := 43 } : Room)) (fun a U => a = #[(.ref vb), (.int (0 : Int32)), (.int ct)] ∧ Z.Warmed39 U.vm ∧ U.heap = h0) (fun _ _ _ _ _ => True) (fun _ U o U' => ∃ v L, o = .returned v ∧ Q_cor Z vb ct kv vv h0 n0 v U'.heap L ∧ FrameEnd U o U' L ({ frames := 2, cells := 1, slots := 7, locals := 43 } : Room).cells ({ frames := 2, cells := 1, slots := 7, locals := 43 } : Room).slots) := by
  refine MetFree.of_bodySF (plainFor_of_name pn8) hisR ?_
  intro p e s m args below meth c s₁ Bd hml0 hP hK
  obtain ⟨rfl, hZ, hh⟩ := hP
  have hx := Bd.exec
  have hby := Bd.bytes
  have hml : c.maxLocals = 3 := hml0
  have hown : s.vm.findClass "java/util/Arrays" = some m.cls := findClass_of_methodNamed Bd.named
  have hnm := (name_of_methodNamed Bd.named Bd.method).1
  have hlk := Bd.notSynchronized
  have hrt := Bd.returns
  have X0 : Stand p l e ({ frames := 2, cells := 1, slots := 7, locals := 43 } : Room) s m #[(.ref vb), (.int (0 : Int32)), (.int ct)] below meth c s₁ [] 0 0 := Stand.of_body Bd
  have e0 : s₁.heap = h0 := by rw [← hh, Bd.state]; rfl
  have N0 := Fr.nil n0
  refine own_cast (P := own_End s (Q_cor Z vb ct kv vv h0 n0) ({ frames := 2, cells := 1, slots := 7, locals := 43 } : Room).cells ({ frames := 2, cells := 1, slots := 7, locals := 43 } : Room).slots) (ef_cor m vb ct) ?_
  refine g_iloadN X0 hx hby d_cor_0 rfl (rfl : 0 + 1 = 1) ?_
  refine g_ifF X0 hx hby d_cor_1 ((if0 _ _).trans (teq (by decide : (0 : Int32) = (0 : Int32))).2) (rfl : 1 + 3 = 4) ?_
  refine g_iloadN X0 hx hby d_cor_4 rfl (rfl : 4 + 1 = 5) ?_
  refine g_aloadN X0 hx hby d_cor_5 rfl rfl (rfl : 5 + 1 = 6) ?_
  refine g_alen X0 hx hby hZ e0 hp0 d_cor_6 (rfl : 6 + 1 = 7) ?_
  have c450 : ¬ (ct = (16 : Int32)) := own_17n h17
  refine g_icF X0 hx hby d_cor_7 (feq c450).1 (rfl : 7 + 3 = 10) ?_
  refine g_aloadN X0 hx hby d_cor_10 rfl rfl (rfl : 10 + 1 = 11) ?_
  refine g_iloadN X0 hx hby d_cor_11 rfl (rfl : 11 + 1 = 12) ?_
  refine g_iloadN X0 hx hby d_cor_12 rfl (rfl : 12 + 1 = 13) ?_
  obtain ⟨_, _, ⟨T451, L451, k451, n451⟩, -, X451, ⟨Lc451, hQ451, l451, y451, z451⟩, st451⟩ := Jvm.LawKit.callS X0 hx (y := (⟨"java/util/Arrays", "copyOfRangeByte", "([BII)[B"⟩ : MethodName)) hown (mvT hZ (hw _ (List.mem_of_getElem? (i := 192) rfl))) (mvT hZ (hw _ (List.mem_of_getElem? (i := 193) rfl))) (mvT hZ (hw _ (List.mem_of_getElem? (i := 190) rfl))) (mvT hZ (hw _ (List.mem_of_getElem? (i := 194) rfl))) (by decide) (backOf (W := 0) (rm_crb l Z aT hw [] vb ct kv vv h0 n0 Z0 hp0 h17) hZ (hw _ (List.mem_of_getElem? (i := 194) rfl)) (hw _ (List.mem_of_getElem? (i := 190) rfl)) (by decide) (by decide)) (g := (mkF m 13 #[.val (.ref vb), .val (.int (0 : Int32)), .val (.int ct)] [(.int ct), (.int (0 : Int32)), (.ref vb)])) rfl (by rw [hml]; rfl) (argsL := [(.ref vb), (.int (0 : Int32)), (.int ct)]) (rest := []) (lenOf pd20 rfl) rfl (by show 2 * 0 + _ ≤ _; exact Nat.le_of_eq rfl) (hb hby d_cor_13) (fun _ _ => ⟨rfl, e0, (by decide : 0 + 1 ≤ _), (by decide : 0 + 7 ≤ _)⟩)
  dsimp only [Pt.U, Pt.locs, Pt.cells, Pt.slots] at X451 l451 y451 z451 st451 hQ451
  subst l451 y451 z451
  obtain ⟨oz_451, rfl, N451q, K451, q451_0, q451_1⟩ := hQ451
  have N451 := Fr.app N0 N451q
  have Z451 : n0 ≤ T451.heap.size := Nat.le_trans Z0 K451.1
  have KC451 : Keep h0 T451.heap [] := (Keep.refl h0 []).trans K451 all0
  have ne452 : vb ≠ oz_451 := Nat.ne_of_lt (Nat.lt_of_lt_of_le (hp0).lt q451_0)
  have ge453 : n0 ≤ oz_451 := Nat.le_trans Z0 q451_0
  have sz454 : h0.size ≤ oz_451 := Nat.le_trans (Keep.refl h0 []).1 q451_0
  refine own_go st451 ?_
  show own_Got p e below _ T451 (mkF m 16 #[.val (.ref vb), .val (.int (0 : Int32)), .val (.int ct)] [(.ref oz_451)])
  refine own_retR X451 hx hby hlk hrt rfl d_cor_16 (by decide) (by decide) rfl ?_
  show Q_cor Z vb ct kv vv h0 n0 _ T451.heap _
  exact ⟨oz_451, rfl, N451, KC451, sz454, q451_1⟩
theorem d_sab_0 : decode jdk_42_method_150_code 0 = .ok (.aload_n 0, 1) := by decide +kernel
theorem d_sab_1 : decode jdk_42_method_150_code 1 = .ok (.invokespecial 1, 3) := by decide +kernel
theorem d_sab_4 : decode jdk_42_method_150_code 4 = .ok (.aload_n 1, 1) := by decide +kernel
theorem d_sab_5 : decode jdk_42_method_150_code 5 = .ok (.invokevirtual 552, 3) := by decide +kernel
theorem d_sab_8 : decode jdk_42_method_150_code 8 = .ok (.astore_n 3, 1) := by decide +kernel
theorem d_sab_9 : decode jdk_42_method_150_code 9 = .ok (.aload_n 1, 1) := by decide +kernel
theorem d_sab_10 : decode jdk_42_method_150_code 10 = .ok (.invokevirtual 549, 3) := by decide +kernel
theorem d_sab_13 : decode jdk_42_method_150_code 13 = .ok (.istore 4, 2) := by decide +kernel
theorem d_sab_15 : decode jdk_42_method_150_code 15 = .ok (.aload_n 1, 1) := by decide +kernel
theorem d_sab_16 : decode jdk_42_method_150_code 16 = .ok (.invokevirtual 1047, 3) := by decide +kernel
theorem d_sab_19 : decode jdk_42_method_150_code 19 = .ok (.ifCond .eq 22, 3) := by decide +kernel
theorem d_sab_22 : decode jdk_42_method_150_code 22 = .ok (.aload_n 0, 1) := by decide +kernel
theorem d_sab_23 : decode jdk_42_method_150_code 23 = .ok (.iconst 0, 1) := by decide +kernel
theorem d_sab_24 : decode jdk_42_method_150_code 24 = .ok (.putfield 15, 3) := by decide +kernel
theorem d_sab_27 : decode jdk_42_method_150_code 27 = .ok (.aload_n 0, 1) := by decide +kernel
theorem d_sab_28 : decode jdk_42_method_150_code 28 = .ok (.aload_n 3, 1) := by decide +kernel
theorem d_sab_29 : decode jdk_42_method_150_code 29 = .ok (.iconst 0, 1) := by decide +kernel
theorem d_sab_30 : decode jdk_42_method_150_code 30 = .ok (.iload 4, 2) := by decide +kernel
theorem d_sab_32 : decode jdk_42_method_150_code 32 = .ok (.invokestatic 54, 3) := by decide +kernel
theorem d_sab_35 : decode jdk_42_method_150_code 35 = .ok (.putfield 9, 3) := by decide +kernel
theorem d_sab_38 : decode jdk_42_method_150_code 38 = .ok (.goto 59, 3) := by decide +kernel
theorem d_sab_97 : decode jdk_42_method_150_code 97 = .ok (.return_, 1) := by decide +kernel
theorem pd21 : parseMethodDescriptor "()[B" = some ⟨[], some (.array .byte)⟩ := by decide +kernel
theorem ef_sab (m : MethodId) (a0 : Addr) (a1 : Addr) : entryFrame m #[(.ref a0), (.ref a1), .null] 5 = mkF m 0 #[.val (.ref a0), .val (.ref a1), .val .null, .unset, .unset] [] := by first | (simp [entryFrame, mkF, argsToLocals, Value.category]; done) | rfl
def Q_sab (Z : State) (a0 : Addr) (a1 : Addr) (vb : Addr) (kv : ClassId) (vv : List Value) (ct : Int32) (g1 : Int32) (h0 : Heap) (n0 : Nat) (v : Option Value) (h : Heap) (L : List Loc) : Prop := v = none ∧ Fr n0 L ∧ Keep h0 h [a0] ∧ Exa Z h a0 "java/lang/String"
set_option maxRecDepth 65536 in
set_option maxHeartbeats 40000000 in
theorem rm_sab (l : Launch) (Z : State) (aT : Array Value) (hw : ∀ d ∈ tables_1, d.before aT Z = true) (ws : List Jvm.Cond) (a0 : Addr) (a1 : Addr) (vb : Addr) (kv : ClassId) (vv : List Value) (ct : Int32) (g1 : Int32) (h0 : Heap) (n0 : Nat) (Z0 : n0 ≤ h0.size) (hp0 : Exa Z h0 a0 "java/lang/String") (hp1 : Fld Z h0 a0 "java/lang/String" "value" "[B" .null) (hp2 : Fld Z h0 a0 "java/lang/String" "coder" "B" (.int (0 : Int32))) (hp3 : n0 ≤ a0) (hp4 : a0 ≠ a1) (hp5 : a0 ≠ vb) (hp6 : Exa Z h0 a1 "java/lang/StringBuilder") (hp7 : Fld Z h0 a1 "java/lang/AbstractStringBuilder" "value" "[B" (.ref vb)) (hp8 : Fld Z h0 a1 "java/lang/AbstractStringBuilder" "coder" "B" (.int (0 : Int32))) (hp9 : Fld Z h0 a1 "java/lang/AbstractStringBuilder" "count" "I" (.int ct)) (hp10 : Arv Z h0 vb kv .byte (16 : Int32) vv (.int (0 : Int32))) (hp11 : Sta Z h0 "java/lang/String" "COMPACT_STRINGS" "Z" (.int g1)) (hg1 : ¬ (g1 = (0 : Int32))) (h17 : own_17 ct) :
    MetFree l (⟨"java/lang/String", "<init>", "(Ljava/lang/AbstractStringBuilder;Ljava/lang/Void;)V"⟩ : MethodName) (head1 (Jvm.Cond.code (⟨"java/lang/String", "<init>", "(Ljava/lang/AbstractStringBuilder;Ljava/lang/Void;)V"⟩ : MethodName) jdk_42_method_150_code 5 none :: ws) ({ frames := 3, cells := 1, slots := 7, locals := 58 } : Room)) (fun a U => a = #[(.ref a0), (.ref a1), .null] ∧ Z.Warmed39 U.vm ∧ U.heap = h0) (fun _ _ _ _ _ => True) (fun _ U o U' => ∃ v L, o = .returned v ∧ Q_sab Z a0 a1 vb kv vv ct g1 h0 n0 v U'.heap L ∧ FrameEnd U o U' L ({ frames := 3, cells := 1, slots := 7, locals := 58 } : Room).cells ({ frames := 3, cells := 1, slots := 7, locals := 58 } : Room).slots) := by
  refine MetFree.of_bodySF (plainFor_of_name pn1) hisR ?_
  intro p e s m args below meth c s₁ Bd hml0 hP hK
  obtain ⟨rfl, hZ, hh⟩ := hP
  have hx := Bd.exec
  have hby := Bd.bytes
  have hml : c.maxLocals = 5 := hml0
  have hown : s.vm.findClass "java/lang/String" = some m.cls := findClass_of_methodNamed Bd.named
  have hnm := (name_of_methodNamed Bd.named Bd.method).1
  have hlk := Bd.notSynchronized
  have hrt := Bd.returns
  have X0 : Stand p l e ({ frames := 3, cells := 1, slots := 7, locals := 58 } : Room) s m #[(.ref a0), (.ref a1), .null] below meth c s₁ [] 0 0 := Stand.of_body Bd
  have e0 : s₁.heap = h0 := by rw [← hh, Bd.state]; rfl
  have N0 := Fr.nil n0
  refine own_cast (P := own_End s (Q_sab Z a0 a1 vb kv vv ct g1 h0 n0) ({ frames := 3, cells := 1, slots := 7, locals := 58 } : Room).cells ({ frames := 3, cells := 1, slots := 7, locals := 58 } : Room).slots) (ef_sab m a0 a1) ?_
  refine g_aloadN X0 hx hby d_sab_0 rfl rfl (rfl : 0 + 1 = 1) ?_
  obtain ⟨T455, X455, e455, st455⟩ := initO X0 hx hZ hown (hw _ (List.mem_of_getElem? (i := 18) rfl)) (hw _ (List.mem_of_getElem? (i := 19) rfl)) (hw _ (List.mem_of_getElem? (i := 20) rfl)) e0 (g := (mkF m 1 #[.val (.ref a0), .val (.ref a1), .val .null, .unset, .unset] [(.ref a0)])) rfl (by rw [hml]; rfl) rfl (hb hby d_sab_1) (by decide) (W := 0) (by show 2 * 0 + _ ≤ _; exact Nat.le_of_eq rfl) (by decide)
  refine own_go st455 ?_
  show own_Got p e below _ T455 (mkF m 4 #[.val (.ref a0), .val (.ref a1), .val .null, .unset, .unset] [])
  refine g_aloadN X455 hx hby d_sab_4 rfl rfl (rfl : 4 + 1 = 5) ?_
  obtain ⟨cq456, kq456, q456a, q456b, q456c⟩ := isOf hZ e455 hp6
  obtain ⟨_, _, ⟨T456, L456, k456, n456⟩, -, X456, ⟨Lc456, hQ456, l456, y456, z456⟩, st456⟩ := X455.virtualBack hx (y := (⟨"java/lang/AbstractStringBuilder", "getValue", "()[B"⟩ : MethodName)) (z := (⟨"java/lang/AbstractStringBuilder", "getValue", "()[B"⟩ : MethodName)) hown (mvT hZ (hw _ (List.mem_of_getElem? (i := 174) rfl))) (mvT hZ (hw _ (List.mem_of_getElem? (i := 175) rfl))) (notFace_of_selects (args := #[]) (mvT hZ (hw _ (List.mem_of_getElem? (i := 177) rfl)))) (mvT hZ (hw _ (List.mem_of_getElem? (i := 177) rfl))) (mvT hZ (hw _ (List.mem_of_getElem? (i := 176) rfl))) (by decide) (backOf (W := 0) (rm_gva l Z aT hw [] a1 vb h0 n0 Z0 hp7) hZ (hw _ (List.mem_of_getElem? (i := 178) rfl)) (hw _ (List.mem_of_getElem? (i := 90) rfl)) (by decide) (by decide)) q456a q456c (g := (mkF m 5 #[.val (.ref a0), .val (.ref a1), .val .null, .unset, .unset] [(.ref a1)])) rfl (by rw [hml]; rfl) (Steps.refl _) (argsL := []) (rest := []) (lenOf pd21 rfl) rfl (by show 2 * 0 + _ ≤ _; exact Nat.le_of_eq rfl) (hb hby d_sab_5) (fun _ _ => ⟨rfl, e455, (by decide : 0 + 0 ≤ _), (by decide : 0 + 0 ≤ _)⟩)
  dsimp only [Pt.U, Pt.locs, Pt.cells, Pt.slots] at X456 l456 y456 z456 st456 hQ456
  subst l456 y456 z456
  obtain ⟨rfl, N456q, eq456⟩ := hQ456
  have N456 := Fr.app N0 N456q
  refine own_tr st456 ?_
  show own_Got p e below _ T456 (mkF m 8 #[.val (.ref a0), .val (.ref a1), .val .null, .unset, .unset] [(.ref vb)])
  refine g_astoreN X456 hx hby #[.val (.ref a0), .val (.ref a1), .val .null, .val (.ref vb), .unset] d_sab_8 rfl rfl (rfl : 8 + 1 = 9) ?_
  refine g_aloadN X456 hx hby d_sab_9 rfl rfl (rfl : 9 + 1 = 10) ?_
  obtain ⟨cq457, kq457, q457a, q457b, q457c⟩ := isOf hZ eq456 hp6
  obtain ⟨_, _, ⟨T457, L457, k457, n457⟩, -, X457, ⟨Lc457, hQ457, l457, y457, z457⟩, st457⟩ := X456.virtualBack hx (y := (⟨"java/lang/AbstractStringBuilder", "length", "()I"⟩ : MethodName)) (z := (⟨"java/lang/StringBuilder", "length", "()I"⟩ : MethodName)) hown (mvT hZ (hw _ (List.mem_of_getElem? (i := 179) rfl))) (mvT hZ (hw _ (List.mem_of_getElem? (i := 180) rfl))) (own_nf (y := (⟨"java/lang/AbstractStringBuilder", "length", "()I"⟩ : MethodName)) (z := (⟨"java/lang/AbstractStringBuilder", "ensureCapacityInternal", "(I)V"⟩ : MethodName)) (args := #[]) rfl (mvT hZ (hw _ (List.mem_of_getElem? (i := 121) rfl))) (notFace_of_selects (args := #[]) (mvT hZ (hw _ (List.mem_of_getElem? (i := 123) rfl))))) (mvT hZ (hw _ (List.mem_of_getElem? (i := 182) rfl))) (mvT hZ (hw _ (List.mem_of_getElem? (i := 183) rfl))) (by decide) (backOf (W := 0) (rm_sbl l Z aT hw [] a1 ct h0 n0 Z0 hp6 hp9) hZ (hw _ (List.mem_of_getElem? (i := 184) rfl)) (hw _ (List.mem_of_getElem? (i := 82) rfl)) (by decide) (by decide)) q457a q457c (g := (mkF m 10 #[.val (.ref a0), .val (.ref a1), .val .null, .val (.ref vb), .unset] [(.ref a1)])) rfl (by rw [hml]; rfl) (Steps.refl _) (argsL := []) (rest := []) (lenOf pd12 rfl) rfl (by show 2 * 0 + _ ≤ _; exact Nat.le_of_eq rfl) (hb hby d_sab_10) (fun _ _ => ⟨rfl, eq456, (by decide : 0 + 0 ≤ _), (by decide : 0 + 0 ≤ _)⟩)
  dsimp only [Pt.U, Pt.locs, Pt.cells, Pt.slots] at X457 l457 y457 z457 st457 hQ457
  subst l457 y457 z457
  obtain ⟨rfl, N457q, eq457⟩ := hQ457
  have N457 := Fr.app N456 N457q
  refine own_tr st457 ?_
  show own_Got p e below _ T457 (mkF m 13 #[.val (.ref a0), .val (.ref a1), .val .null, .val (.ref vb), .unset] [(.int ct)])
  refine g_istore X457 hx hby #[.val (.ref a0), .val (.ref a1), .val .null, .val (.ref vb), .val (.int ct)] d_sab_13 rfl (rfl : 13 + 2 = 15) ?_
  refine g_aloadN X457 hx hby d_sab_15 rfl rfl (rfl : 15 + 1 = 16) ?_
  obtain ⟨cq458, kq458, q458a, q458b, q458c⟩ := isOf hZ eq457 hp6
  obtain ⟨_, _, ⟨T458, L458, k458, n458⟩, -, X458, ⟨Lc458, hQ458, l458, y458, z458⟩, st458⟩ := X457.virtualBack hx (y := (⟨"java/lang/AbstractStringBuilder", "isLatin1", "()Z"⟩ : MethodName)) (z := (⟨"java/lang/AbstractStringBuilder", "isLatin1", "()Z"⟩ : MethodName)) hown (mvT hZ (hw _ (List.mem_of_getElem? (i := 187) rfl))) (mvT hZ (hw _ (List.mem_of_getElem? (i := 155) rfl))) (notFace_of_selects (args := #[]) (mvT hZ (hw _ (List.mem_of_getElem? (i := 157) rfl)))) (mvT hZ (hw _ (List.mem_of_getElem? (i := 157) rfl))) (mvT hZ (hw _ (List.mem_of_getElem? (i := 156) rfl))) (by decide) (backOf (W := 0) (rm_al1 l Z aT hw [] a1 g1 h0 n0 Z0 hp11 hp8 hg1) hZ (hw _ (List.mem_of_getElem? (i := 158) rfl)) (hw _ (List.mem_of_getElem? (i := 90) rfl)) (by decide) (by decide)) q458a q458c (g := (mkF m 16 #[.val (.ref a0), .val (.ref a1), .val .null, .val (.ref vb), .val (.int ct)] [(.ref a1)])) rfl (by rw [hml]; rfl) (Steps.refl _) (argsL := []) (rest := []) (lenOf pd15 rfl) rfl (by show 2 * 0 + _ ≤ _; exact Nat.le_of_eq rfl) (hb hby d_sab_16) (fun _ _ => ⟨rfl, eq457, (by decide : 0 + 0 ≤ _), (by decide : 0 + 0 ≤ _)⟩)
  dsimp only [Pt.U, Pt.locs, Pt.cells, Pt.slots] at X458 l458 y458 z458 st458 hQ458
  subst l458 y458 z458
  obtain ⟨rfl, N458q, eq458⟩ := hQ458
  have N458 := Fr.app N457 N458q
  refine own_tr st458 ?_
  show own_Got p e below _ T458 (mkF m 19 #[.val (.ref a0), .val (.ref a1), .val .null, .val (.ref vb), .val (.int ct)] [(.int (1 : Int32))])
  refine g_ifF X458 hx hby d_sab_19 ((if0 _ _).trans (feq (by decide : ¬ ((1 : Int32) = (0 : Int32)))).1) (rfl : 19 + 3 = 22) ?_
  refine g_aloadN X458 hx hby d_sab_22 rfl rfl (rfl : 22 + 1 = 23) ?_
  refine g_iconst X458 hx hby (0 : Int32) d_sab_23 (by decide) (rfl : 23 + 1 = 24) ?_
  obtain ⟨T459, h459, X459, e459, W459, st459⟩ := putFN X458 hx hZ hown (hw _ (List.mem_of_getElem? (i := 28) rfl)) Via.refl eq458 hp2 hp0 (Or.inr ⟨(hw _ (List.mem_of_getElem? (i := 24) rfl)), rfl, hnm⟩) (hw _ (List.mem_of_getElem? (i := 8) rfl)) (ty := .byte) (v' := (.int (0 : Int32))) (by decide) rfl rfl (g := (mkF m 24 #[.val (.ref a0), .val (.ref a1), .val .null, .val (.ref vb), .val (.int ct)] [(.int (0 : Int32)), (.ref a0)])) rfl rfl (hb hby d_sab_24)
  have Z459 : n0 ≤ h459.size := Nat.le_trans Z0 (Keep.of_wr W459).1
  have N459 := Fr.snoc X459 N458 hp3
  have K459 : Keep h0 h459 [a0] := (Keep.refl h0 [a0]).wr W459 (Or.inl (List.mem_of_getElem? (i := 0) rfl))
  have f459 : Fld Z h459 a0 "java/lang/String" "coder" "B" (.int (0 : Int32)) := Fld.same W459 hp2
  refine own_go st459 ?_
  show own_Got p e below _ T459 (mkF m 27 #[.val (.ref a0), .val (.ref a1), .val .null, .val (.ref vb), .val (.int ct)] [])
  refine g_aloadN X459 hx hby d_sab_27 rfl rfl (rfl : 27 + 1 = 28) ?_
  refine g_aloadN X459 hx hby d_sab_28 rfl rfl (rfl : 28 + 1 = 29) ?_
  refine g_iconst X459 hx hby (0 : Int32) d_sab_29 (by decide) (rfl : 29 + 1 = 30) ?_
  refine g_iload X459 hx hby d_sab_30 rfl (rfl : 30 + 2 = 32) ?_
  have f461 : Arv Z h459 vb kv .byte (16 : Int32) vv (.int (0 : Int32)) := (Arv.other hp10 W459 (Ne.symm hp5))
  have f462 : Exa Z h459 a0 "java/lang/String" := (Exa.wr W459 hp0)
  have f463 : Exa Z h459 a1 "java/lang/StringBuilder" := (Exa.wr W459 hp6)
  obtain ⟨_, _, ⟨T460, L460, k460, n460⟩, -, X460, ⟨Lc460, hQ460, l460, y460, z460⟩, st460⟩ := Jvm.LawKit.callS X459 hx (y := (⟨"java/util/Arrays", "copyOfRange", "([BII)[B"⟩ : MethodName)) hown (mvT hZ (hw _ (List.mem_of_getElem? (i := 188) rfl))) (mvT hZ (hw _ (List.mem_of_getElem? (i := 189) rfl))) (mvT hZ (hw _ (List.mem_of_getElem? (i := 190) rfl))) (mvT hZ (hw _ (List.mem_of_getElem? (i := 191) rfl))) (by decide) (backOf (W := 1) (rm_cor l Z aT hw [] vb ct kv vv h459 n0 Z459 f461 h17) hZ (hw _ (List.mem_of_getElem? (i := 191) rfl)) (hw _ (List.mem_of_getElem? (i := 190) rfl)) (by decide) (by decide)) (g := (mkF m 32 #[.val (.ref a0), .val (.ref a1), .val .null, .val (.ref vb), .val (.int ct)] [(.int ct), (.int (0 : Int32)), (.ref vb), (.ref a0)])) rfl (by rw [hml]; rfl) (argsL := [(.ref vb), (.int (0 : Int32)), (.int ct)]) (rest := [(.ref a0)]) (lenOf pd20 rfl) rfl (by show 2 * 0 + _ ≤ _; exact Nat.le_of_eq rfl) (hb hby d_sab_32) (fun _ _ => ⟨rfl, e459, (by decide : 0 + 1 ≤ _), (by decide : 0 + 7 ≤ _)⟩)
  dsimp only [Pt.U, Pt.locs, Pt.cells, Pt.slots] at X460 l460 y460 z460 st460 hQ460
  subst l460 y460 z460
  obtain ⟨oz_460, rfl, N460q, K460, q460_0, q460_1⟩ := hQ460
  have N460 := Fr.app N459 N460q
  have Z460 : n0 ≤ T460.heap.size := Nat.le_trans Z459 K460.1
  have KC460 : Keep h0 T460.heap [a0] := K459.trans K460 all0
  have ne464 : a0 ≠ oz_460 := Nat.ne_of_lt (Nat.lt_of_lt_of_le (f462).lt q460_0)
  have ne465 : a1 ≠ oz_460 := Nat.ne_of_lt (Nat.lt_of_lt_of_le (f463).lt q460_0)
  have ne466 : vb ≠ oz_460 := Nat.ne_of_lt (Nat.lt_of_lt_of_le (f461).lt q460_0)
  have ge467 : n0 ≤ oz_460 := Nat.le_trans Z459 q460_0
  have sz468 : h0.size ≤ oz_460 := Nat.le_trans K459.1 q460_0
  refine own_go st460 ?_
  show own_Got p e below _ T460 (mkF m 35 #[.val (.ref a0), .val (.ref a1), .val .null, .val (.ref vb), .val (.int ct)] [(.ref oz_460), (.ref a0)])
  have f469 : Fld Z T460.heap a0 "java/lang/String" "value" "[B" .null := (Fld.keep (Fld.other W459 hp1 (Or.inr (slot_ne (Or.inr (hw _ (List.mem_of_getElem? (i := 23) rfl))) (Or.inr (hw _ (List.mem_of_getElem? (i := 24) rfl))) (by decide) (t := (.array .byte)) (t' := .byte) (by decide) (by decide)))) K460 nin0)
  have f470 : Exa Z T460.heap a0 "java/lang/String" := (Exa.keep f462 K460)
  obtain ⟨T471, h471, X471, e471, W471, st471⟩ := putF X460 hx hZ hown (host := "") (Or.inl (hw _ (List.mem_of_getElem? (i := 27) rfl))) Via.refl rfl f469 f470 (Or.inr ⟨(hw _ (List.mem_of_getElem? (i := 23) rfl)), rfl, hnm⟩) (hw _ (List.mem_of_getElem? (i := 8) rfl)) (ty := (.array .byte)) (by decide) rfl rfl (g := (mkF m 35 #[.val (.ref a0), .val (.ref a1), .val .null, .val (.ref vb), .val (.int ct)] [(.ref oz_460), (.ref a0)])) rfl rfl (hb hby d_sab_35)
  have Z471 : n0 ≤ h471.size := Nat.le_trans Z460 (Keep.of_wr W471).1
  have N471 := Fr.snoc X471 N460 hp3
  have K471 : Keep h0 h471 [a0] := KC460.wr W471 (Or.inl (List.mem_of_getElem? (i := 0) rfl))
  have f471 : Fld Z h471 a0 "java/lang/String" "value" "[B" (.ref oz_460) := Fld.same W471 f469
  refine own_go st471 ?_
  show own_Got p e below _ T471 (mkF m 38 #[.val (.ref a0), .val (.ref a1), .val .null, .val (.ref vb), .val (.int ct)] [])
  refine g_goto X471 hx hby d_sab_38 (by decide) (pc' := 97) (by decide) ?_
  have f472 : Exa Z h471 a0 "java/lang/String" := (Exa.wr W471 f470)
  refine own_retV X471 hx hby hlk hrt d_sab_97 (by decide) (by decide) ?_
  show Q_sab Z a0 a1 vb kv vv ct g1 h0 n0 _ T471.heap _
  rw [e471]
  exact ⟨rfl, N471, K471, f472⟩
theorem d_ssb_0 : decode jdk_42_method_53_code 0 = .ok (.aload_n 0, 1) := by decide +kernel
theorem d_ssb_1 : decode jdk_42_method_53_code 1 = .ok (.aload_n 1, 1) := by decide +kernel
theorem d_ssb_2 : decode jdk_42_method_53_code 2 = .ok (.aconst_null, 1) := by decide +kernel
theorem d_ssb_3 : decode jdk_42_method_53_code 3 = .ok (.invokespecial 489, 3) := by decide +kernel
theorem d_ssb_6 : decode jdk_42_method_53_code 6 = .ok (.return_, 1) := by decide +kernel
theorem pd22 : parseMethodDescriptor "(Ljava/lang/AbstractStringBuilder;Ljava/lang/Void;)V" = some ⟨[(.object "java/lang/AbstractStringBuilder"), (.object "java/lang/Void")], none⟩ := by decide +kernel
theorem ef_ssb (m : MethodId) (a0 : Addr) (a1 : Addr) : entryFrame m #[(.ref a0), (.ref a1)] 2 = mkF m 0 #[.val (.ref a0), .val (.ref a1)] [] := by first | (simp [entryFrame, mkF, argsToLocals, Value.category]; done) | rfl
def Q_ssb (Z : State) (a0 : Addr) (a1 : Addr) (vb : Addr) (kv : ClassId) (vv : List Value) (ct : Int32) (g1 : Int32) (h0 : Heap) (n0 : Nat) (v : Option Value) (h : Heap) (L : List Loc) : Prop := v = none ∧ Fr n0 L ∧ Keep h0 h [a0] ∧ Exa Z h a0 "java/lang/String"
set_option maxRecDepth 65536 in
set_option maxHeartbeats 40000000 in
theorem rm_ssb (l : Launch) (Z : State) (aT : Array Value) (hw : ∀ d ∈ tables_1, d.before aT Z = true) (ws : List Jvm.Cond) (a0 : Addr) (a1 : Addr) (vb : Addr) (kv : ClassId) (vv : List Value) (ct : Int32) (g1 : Int32) (h0 : Heap) (n0 : Nat) (Z0 : n0 ≤ h0.size) (hp0 : Exa Z h0 a0 "java/lang/String") (hp1 : Fld Z h0 a0 "java/lang/String" "value" "[B" .null) (hp2 : Fld Z h0 a0 "java/lang/String" "coder" "B" (.int (0 : Int32))) (hp3 : n0 ≤ a0) (hp4 : a0 ≠ a1) (hp5 : a0 ≠ vb) (hp6 : Exa Z h0 a1 "java/lang/StringBuilder") (hp7 : Fld Z h0 a1 "java/lang/AbstractStringBuilder" "value" "[B" (.ref vb)) (hp8 : Fld Z h0 a1 "java/lang/AbstractStringBuilder" "coder" "B" (.int (0 : Int32))) (hp9 : Fld Z h0 a1 "java/lang/AbstractStringBuilder" "count" "I" (.int ct)) (hp10 : Arv Z h0 vb kv .byte (16 : Int32) vv (.int (0 : Int32))) (hp11 : Sta Z h0 "java/lang/String" "COMPACT_STRINGS" "Z" (.int g1)) (hg1 : ¬ (g1 = (0 : Int32))) (h17 : own_17 ct) :
    MetFree l (⟨"java/lang/String", "<init>", "(Ljava/lang/StringBuilder;)V"⟩ : MethodName) (head1 (Jvm.Cond.code (⟨"java/lang/String", "<init>", "(Ljava/lang/StringBuilder;)V"⟩ : MethodName) jdk_42_method_53_code 2 none :: ws) ({ frames := 4, cells := 1, slots := 7, locals := 74 } : Room)) (fun a U => a = #[(.ref a0), (.ref a1)] ∧ Z.Warmed39 U.vm ∧ U.heap = h0) (fun _ _ _ _ _ => True) (fun _ U o U' => ∃ v L, o = .returned v ∧ Q_ssb Z a0 a1 vb kv vv ct g1 h0 n0 v U'.heap L ∧ FrameEnd U o U' L ({ frames := 4, cells := 1, slots := 7, locals := 74 } : Room).cells ({ frames := 4, cells := 1, slots := 7, locals := 74 } : Room).slots) := by
  refine MetFree.of_bodySF (plainFor_of_name pn1) hisR ?_
  intro p e s m args below meth c s₁ Bd hml0 hP hK
  obtain ⟨rfl, hZ, hh⟩ := hP
  have hx := Bd.exec
  have hby := Bd.bytes
  have hml : c.maxLocals = 2 := hml0
  have hown : s.vm.findClass "java/lang/String" = some m.cls := findClass_of_methodNamed Bd.named
  have hnm := (name_of_methodNamed Bd.named Bd.method).1
  have hlk := Bd.notSynchronized
  have hrt := Bd.returns
  have X0 : Stand p l e ({ frames := 4, cells := 1, slots := 7, locals := 74 } : Room) s m #[(.ref a0), (.ref a1)] below meth c s₁ [] 0 0 := Stand.of_body Bd
  have e0 : s₁.heap = h0 := by rw [← hh, Bd.state]; rfl
  have N0 := Fr.nil n0
  refine own_cast (P := own_End s (Q_ssb Z a0 a1 vb kv vv ct g1 h0 n0) ({ frames := 4, cells := 1, slots := 7, locals := 74 } : Room).cells ({ frames := 4, cells := 1, slots := 7, locals := 74 } : Room).slots) (ef_ssb m a0 a1) ?_
  refine g_aloadN X0 hx hby d_ssb_0 rfl rfl (rfl : 0 + 1 = 1) ?_
  refine g_aloadN X0 hx hby d_ssb_1 rfl rfl (rfl : 1 + 1 = 2) ?_
  refine g_anull X0 hx hby d_ssb_2 (rfl : 2 + 1 = 3) ?_
  obtain ⟨_, _, ⟨T473, L473, k473, n473⟩, -, X473, ⟨Lc473, hQ473, l473, y473, z473⟩, st473⟩ := X0.specialBack hx (y := (⟨"java/lang/String", "<init>", "(Ljava/lang/AbstractStringBuilder;Ljava/lang/Void;)V"⟩ : MethodName)) rfl hown (mvT hZ (hw _ (List.mem_of_getElem? (i := 171) rfl))) (mvT hZ (hw _ (List.mem_of_getElem? (i := 172) rfl))) (mvT hZ (hw _ (List.mem_of_getElem? (i := 173) rfl))) (by decide) (backOf (W := 0) (rm_sab l Z aT hw [] a0 a1 vb kv vv ct g1 h0 n0 Z0 hp0 hp1 hp2 hp3 hp4 hp5 hp6 hp7 hp8 hp9 hp10 hp11 hg1 h17) hZ (hw _ (List.mem_of_getElem? (i := 173) rfl)) (hw _ (List.mem_of_getElem? (i := 9) rfl)) (by decide) (by decide)) (g := (mkF m 3 #[.val (.ref a0), .val (.ref a1)] [.null, (.ref a1), (.ref a0)])) rfl (by rw [hml]; rfl) (Steps.refl _) (a := a0) (argsL := [(.ref a1), .null]) (rest := []) (lenOf pd22 rfl) rfl (by show 2 * 0 + _ ≤ _; exact Nat.le_of_eq rfl) (hb hby d_ssb_3) (fun _ _ => ⟨rfl, e0, (by decide : 0 + 1 ≤ _), (by decide : 0 + 7 ≤ _)⟩)
  dsimp only [Pt.U, Pt.locs, Pt.cells, Pt.slots] at X473 l473 y473 z473 st473 hQ473
  subst l473 y473 z473
  obtain ⟨rfl, N473q, K473, q473_0⟩ := hQ473
  have N473 := Fr.app N0 N473q
  have Z473 : n0 ≤ T473.heap.size := Nat.le_trans Z0 K473.1
  have KC473 : Keep h0 T473.heap [a0] := (Keep.refl h0 [a0]).trans K473 (allS (Or.inl (List.mem_of_getElem? (i := 0) rfl)) all0)
  refine own_tr st473 ?_
  show own_Got p e below _ T473 (mkF m 6 #[.val (.ref a0), .val (.ref a1)] [])
  refine own_retV X473 hx hby hlk hrt d_ssb_6 (by decide) (by decide) ?_
  show Q_ssb Z a0 a1 vb kv vv ct g1 h0 n0 _ T473.heap _
  exact ⟨rfl, N473, KC473, q473_0⟩
theorem d_sts_0 : decode jdk_67_method_42_code 0 = .ok (.new 18, 3) := by decide +kernel
theorem d_sts_3 : decode jdk_67_method_42_code 3 = .ok (.dup, 1) := by decide +kernel
theorem d_sts_4 : decode jdk_67_method_42_code 4 = .ok (.aload_n 0, 1) := by decide +kernel
theorem d_sts_5 : decode jdk_67_method_42_code 5 = .ok (.invokespecial 137, 3) := by decide +kernel
theorem d_sts_8 : decode jdk_67_method_42_code 8 = .ok (.areturn, 1) := by decide +kernel
theorem pd23 : parseMethodDescriptor "(Ljava/lang/StringBuilder;)V" = some ⟨[(.object "java/lang/StringBuilder")], none⟩ := by decide +kernel
theorem ef_sts (m : MethodId) (a1 : Addr) : entryFrame m #[(.ref a1)] 1 = mkF m 0 #[.val (.ref a1)] [] := by first | (simp [entryFrame, mkF, argsToLocals, Value.category]; done) | rfl
def Q_sts (Z : State) (a1 : Addr) (vb : Addr) (kv : ClassId) (vv : List Value) (ct : Int32) (g1 : Int32) (h0 : Heap) (n0 : Nat) (v : Option Value) (h : Heap) (L : List Loc) : Prop := ∃ (oz : Addr), v = some (.ref oz) ∧ Fr n0 L ∧ Keep h0 h [] ∧ h0.size ≤ oz ∧ Exa Z h oz "java/lang/String"
set_option maxRecDepth 65536 in
set_option maxHeartbeats 40000000 in
theorem rm_sts (l : Launch) (Z : State) (aT : Array Value) (hw : ∀ d ∈ tables_1, d.before aT Z = true) (ws : List Jvm.Cond) (a1 : Addr) (vb : Addr) (kv : ClassId) (vv : List Value) (ct : Int32) (g1 : Int32) (h0 : Heap) (n0 : Nat) (Z0 : n0 ≤ h0.size) (hp0 : Exa Z h0 a1 "java/lang/StringBuilder") (hp1 : Fld Z h0 a1 "java/lang/AbstractStringBuilder" "value" "[B" (.ref vb)) (hp2 : Fld Z h0 a1 "java/lang/AbstractStringBuilder" "coder" "B" (.int (0 : Int32))) (hp3 : Fld Z h0 a1 "java/lang/AbstractStringBuilder" "count" "I" (.int ct)) (hp4 : Arv Z h0 vb kv .byte (16 : Int32) vv (.int (0 : Int32))) (hp5 : Sta Z h0 "java/lang/String" "COMPACT_STRINGS" "Z" (.int g1)) (hg1 : ¬ (g1 = (0 : Int32))) (h17 : own_17 ct) :
    MetFree l (⟨"java/lang/StringBuilder", "toString", "()Ljava/lang/String;"⟩ : MethodName) (head1 (Jvm.Cond.code (⟨"java/lang/StringBuilder", "toString", "()Ljava/lang/String;"⟩ : MethodName) jdk_67_method_42_code 1 (some (.object "java/lang/String")) :: ws) ({ frames := 5, cells := 2, slots := 11, locals := 88 } : Room)) (fun a U => a = #[(.ref a1)] ∧ Z.Warmed39 U.vm ∧ U.heap = h0) (fun _ _ _ _ _ => True) (fun _ U o U' => ∃ v L, o = .returned v ∧ Q_sts Z a1 vb kv vv ct g1 h0 n0 v U'.heap L ∧ FrameEnd U o U' L ({ frames := 5, cells := 2, slots := 11, locals := 88 } : Room).cells ({ frames := 5, cells := 2, slots := 11, locals := 88 } : Room).slots) := by
  refine MetFree.of_bodySF (plainFor_of_name pn7) hisR ?_
  intro p e s m args below meth c s₁ Bd hml0 hP hK
  obtain ⟨rfl, hZ, hh⟩ := hP
  have hx := Bd.exec
  have hby := Bd.bytes
  have hml : c.maxLocals = 1 := hml0
  have hown : s.vm.findClass "java/lang/StringBuilder" = some m.cls := findClass_of_methodNamed Bd.named
  have hnm := (name_of_methodNamed Bd.named Bd.method).1
  have hlk := Bd.notSynchronized
  have hrt := Bd.returns
  have X0 : Stand p l e ({ frames := 5, cells := 2, slots := 11, locals := 88 } : Room) s m #[(.ref a1)] below meth c s₁ [] 0 0 := Stand.of_body Bd
  have e0 : s₁.heap = h0 := by rw [← hh, Bd.state]; rfl
  have N0 := Fr.nil n0
  refine own_cast (P := own_End s (Q_sts Z a1 vb kv vv ct g1 h0 n0) ({ frames := 5, cells := 2, slots := 11, locals := 88 } : Room).cells ({ frames := 5, cells := 2, slots := 11, locals := 88 } : Room).slots) (ef_sts m a1) ?_
  obtain ⟨T474, h474, X474, e474, E474, A474, D474, -, st474⟩ := newO X0 hx hZ hown (hw _ (List.mem_of_getElem? (i := 167) rfl)) (hw _ (List.mem_of_getElem? (i := 8) rfl)) (hw _ (List.mem_of_getElem? (i := 9) rfl)) e0 (g := (mkF m 0 #[.val (.ref a1)] [])) rfl (hb hby d_sts_0) (by decide) (by decide)
  obtain ⟨b474, g474⟩ : ∃ z, z = h0.size := ⟨_, rfl⟩
  rw [← g474] at A474 D474 st474
  have ne475 : a1 ≠ b474 := Nat.ne_of_lt (Nat.lt_of_lt_of_le (hp0).lt (Nat.le_of_eq g474.symm))
  have ne476 : vb ≠ b474 := Nat.ne_of_lt (Nat.lt_of_lt_of_le (hp4).lt (Nat.le_of_eq g474.symm))
  have Z474 : n0 ≤ h474.size := Nat.le_trans Z0 E474.1
  have K474 : Keep h0 h474 [] := (Keep.refl h0 []).ext E474
  have ge474 : n0 ≤ b474 := Nat.le_trans Z0 (Nat.le_of_eq g474.symm)
  have sz474 : h0.size ≤ b474 := Nat.le_trans (Keep.refl h0 []).1 (Nat.le_of_eq g474.symm)
  have f477 : Fld Z h474 b474 "java/lang/String" "value" "[B" .null := D474 (Or.inr (hw _ (List.mem_of_getElem? (i := 23) rfl))) (ty := (.array .byte)) (by decide)
  have f478 : Fld Z h474 b474 "java/lang/String" "coder" "B" (.int (0 : Int32)) := D474 (Or.inr (hw _ (List.mem_of_getElem? (i := 24) rfl))) (ty := .byte) (by decide)
  refine own_go st474 ?_
  show own_Got p e below _ T474 (mkF m 3 #[.val (.ref a1)] [(.ref b474)])
  refine g_dup X474 hx hby d_sts_3 rfl (rfl : 3 + 1 = 4) ?_
  refine g_aloadN X474 hx hby d_sts_4 rfl rfl (rfl : 4 + 1 = 5) ?_
  have f480 : Exa Z h474 a1 "java/lang/StringBuilder" := (Exa.ext E474 hp0)
  have f481 : Fld Z h474 a1 "java/lang/AbstractStringBuilder" "value" "[B" (.ref vb) := (Fld.ext E474 hp1)
  have f482 : Fld Z h474 a1 "java/lang/AbstractStringBuilder" "coder" "B" (.int (0 : Int32)) := (Fld.ext E474 hp2)
  have f483 : Fld Z h474 a1 "java/lang/AbstractStringBuilder" "count" "I" (.int ct) := (Fld.ext E474 hp3)
  have f484 : Arv Z h474 vb kv .byte (16 : Int32) vv (.int (0 : Int32)) := (hp4.ext E474)
  have f485 : Sta Z h474 "java/lang/String" "COMPACT_STRINGS" "Z" (.int g1) := (Sta.ext E474 hp5)
  obtain ⟨_, _, ⟨T479, L479, k479, n479⟩, -, X479, ⟨Lc479, hQ479, l479, y479, z479⟩, st479⟩ := X474.specialBack hx (y := (⟨"java/lang/String", "<init>", "(Ljava/lang/StringBuilder;)V"⟩ : MethodName)) rfl hown (mvT hZ (hw _ (List.mem_of_getElem? (i := 168) rfl))) (mvT hZ (hw _ (List.mem_of_getElem? (i := 169) rfl))) (mvT hZ (hw _ (List.mem_of_getElem? (i := 170) rfl))) (by decide) (backOf (W := 1) (rm_ssb l Z aT hw [] b474 a1 vb kv vv ct g1 h474 n0 Z474 A474 f477 f478 ge474 (Ne.symm ne475) (Ne.symm ne476) f480 f481 f482 f483 f484 f485 hg1 h17) hZ (hw _ (List.mem_of_getElem? (i := 170) rfl)) (hw _ (List.mem_of_getElem? (i := 9) rfl)) (by decide) (by decide)) (g := (mkF m 5 #[.val (.ref a1)] [(.ref a1), (.ref b474), (.ref b474)])) rfl (by rw [hml]; rfl) (Steps.refl _) (a := b474) (argsL := [(.ref a1)]) (rest := [(.ref b474)]) (lenOf pd23 rfl) rfl (by show 2 * 0 + _ ≤ _; exact Nat.le_of_eq rfl) (hb hby d_sts_5) (fun _ _ => ⟨rfl, e474, (by decide : 1 + 1 ≤ _), (by decide : 4 + 7 ≤ _)⟩)
  dsimp only [Pt.U, Pt.locs, Pt.cells, Pt.slots] at X479 l479 y479 z479 st479 hQ479
  subst l479 y479 z479
  obtain ⟨rfl, N479q, K479, q479_0⟩ := hQ479
  have N479 := Fr.app N0 N479q
  have Z479 : n0 ≤ T479.heap.size := Nat.le_trans Z474 K479.1
  have KC479 : Keep h0 T479.heap [] := K474.trans K479 (allS (Or.inr sz474) all0)
  refine own_tr st479 ?_
  show own_Got p e below _ T479 (mkF m 8 #[.val (.ref a1)] [(.ref b474)])
  refine own_retR X479 hx hby hlk hrt rfl d_sts_8 (by decide) (by decide) rfl ?_
  show Q_sts Z a1 vb kv vv ct g1 h0 n0 _ T479.heap _
  exact ⟨b474, rfl, N479, KC479, sz474, q479_0⟩
theorem d_pts_0 : decode prog_59_method_9_code 0 = .ok (.new 71, 3) := by decide +kernel
theorem d_pts_3 : decode prog_59_method_9_code 3 = .ok (.dup, 1) := by decide +kernel
theorem d_pts_4 : decode prog_59_method_9_code 4 = .ok (.invokespecial 73, 3) := by decide +kernel
theorem d_pts_7 : decode prog_59_method_9_code 7 = .ok (.aload_n 0, 1) := by decide +kernel
theorem d_pts_8 : decode prog_59_method_9_code 8 = .ok (.getfield 17, 3) := by decide +kernel
theorem d_pts_11 : decode prog_59_method_9_code 11 = .ok (.invokevirtual 74, 3) := by decide +kernel
theorem d_pts_14 : decode prog_59_method_9_code 14 = .ok (.bipush 47, 2) := by decide +kernel
theorem d_pts_16 : decode prog_59_method_9_code 16 = .ok (.invokevirtual 78, 3) := by decide +kernel
theorem d_pts_19 : decode prog_59_method_9_code 19 = .ok (.aload_n 0, 1) := by decide +kernel
theorem d_pts_20 : decode prog_59_method_9_code 20 = .ok (.getfield 24, 3) := by decide +kernel
theorem d_pts_23 : decode prog_59_method_9_code 23 = .ok (.invokevirtual 74, 3) := by decide +kernel
theorem d_pts_26 : decode prog_59_method_9_code 26 = .ok (.invokevirtual 81, 3) := by decide +kernel
theorem d_pts_29 : decode prog_59_method_9_code 29 = .ok (.areturn, 1) := by decide +kernel
theorem pd24 : parseMethodDescriptor "()V" = some ⟨[], none⟩ := by decide +kernel
theorem pd25 : parseMethodDescriptor "(Ljava/lang/String;)Ljava/lang/StringBuilder;" = some ⟨[(.object "java/lang/String")], some (.object "java/lang/StringBuilder")⟩ := by decide +kernel
theorem pd26 : parseMethodDescriptor "(C)Ljava/lang/StringBuilder;" = some ⟨[.char], some (.object "java/lang/StringBuilder")⟩ := by decide +kernel
theorem pd27 : parseMethodDescriptor "()Ljava/lang/String;" = some ⟨[], some (.object "java/lang/String")⟩ := by decide +kernel
theorem ef_pts (m : MethodId) (a0 : Addr) : entryFrame m #[(.ref a0)] 1 = mkF m 0 #[.val (.ref a0)] [] := by first | (simp [entryFrame, mkF, argsToLocals, Value.category]; done) | rfl
def Q_pts (Z : State) (a0 : Addr) (x1 : Int32) (x2 : Int32) (u1 : Addr) (u2 : Addr) (ob1 : Addr) (kb1 : ClassId) (n1 : Int32) (vs1 : List Value) (ob2 : Addr) (kb2 : ClassId) (n2 : Int32) (vs2 : List Value) (g1 : Int32) (h0 : Heap) (n0 : Nat) (v : Option Value) (h : Heap) (L : List Loc) : Prop := ∃ (oz : Addr), v = some (.ref oz) ∧ Fr n0 L ∧ Keep h0 h [] ∧ h0.size ≤ oz ∧ Exa Z h oz "java/lang/String"
set_option maxRecDepth 65536 in
set_option maxHeartbeats 40000000 in
theorem rm_pts (l : Launch) (Z : State) (aT : Array Value) (hw : ∀ d ∈ tables_1, d.before aT Z = true) (ws : List Jvm.Cond) (a0 : Addr) (x1 : Int32) (x2 : Int32) (u1 : Addr) (u2 : Addr) (ob1 : Addr) (kb1 : ClassId) (n1 : Int32) (vs1 : List Value) (ob2 : Addr) (kb2 : ClassId) (n2 : Int32) (vs2 : List Value) (g1 : Int32) (h0 : Heap) (n0 : Nat) (Z0 : n0 ≤ h0.size) (hp0 : Fld Z h0 a0 "com/example/forcon/forcon/model/Permission" "operation" "Ljava/lang/String;" (.ref u1)) (hp1 : Fld Z h0 a0 "com/example/forcon/forcon/model/Permission" "object" "Ljava/lang/String;" (.ref u2)) (hp2 : Exa Z h0 u1 "java/lang/String") (hp3 : Fld Z h0 u1 "java/lang/String" "coder" "B" (.int (0 : Int32))) (hp4 : Fld Z h0 u1 "java/lang/String" "value" "[B" (.ref ob1)) (hp5 : Arv Z h0 ob1 kb1 .byte n1 vs1 (.int (0 : Int32))) (hp6 : Exa Z h0 u2 "java/lang/String") (hp7 : Fld Z h0 u2 "java/lang/String" "coder" "B" (.int (0 : Int32))) (hp8 : Fld Z h0 u2 "java/lang/String" "value" "[B" (.ref ob2)) (hp9 : Arv Z h0 ob2 kb2 .byte n2 vs2 (.int (0 : Int32))) (hp10 : Sta Z h0 "java/lang/String" "COMPACT_STRINGS" "Z" (.int g1)) (hg1 : ¬ (g1 = (0 : Int32))) (hst1 : own_st x1 n1 vs1) (hst2 : own_st x2 n2 vs2) :
    MetFree l (⟨"com/example/forcon/forcon/model/Permission", "toString", "()Ljava/lang/String;"⟩ : MethodName) (head1 (Jvm.Cond.code (⟨"com/example/forcon/forcon/model/Permission", "toString", "()Ljava/lang/String;"⟩ : MethodName) prog_59_method_9_code 1 (some (.object "java/lang/String")) :: ws) ({ frames := 6, cells := 4, slots := 31, locals := 100 } : Room)) (fun a U => a = #[(.ref a0)] ∧ Z.Warmed39 U.vm ∧ U.heap = h0) (fun _ _ _ _ _ => True) (fun _ U o U' => ∃ v L, o = .returned v ∧ Q_pts Z a0 x1 x2 u1 u2 ob1 kb1 n1 vs1 ob2 kb2 n2 vs2 g1 h0 n0 v U'.heap L ∧ FrameEnd U o U' L ({ frames := 6, cells := 4, slots := 31, locals := 100 } : Room).cells ({ frames := 6, cells := 4, slots := 31, locals := 100 } : Room).slots) := by
  refine MetFree.of_bodySF (plainFor_of_name pn4) hisR ?_
  intro p e s m args below meth c s₁ Bd hml0 hP hK
  obtain ⟨rfl, hZ, hh⟩ := hP
  have hx := Bd.exec
  have hby := Bd.bytes
  have hml : c.maxLocals = 1 := hml0
  have hown : s.vm.findClass "com/example/forcon/forcon/model/Permission" = some m.cls := findClass_of_methodNamed Bd.named
  have hnm := (name_of_methodNamed Bd.named Bd.method).1
  have hlk := Bd.notSynchronized
  have hrt := Bd.returns
  have X0 : Stand p l e ({ frames := 6, cells := 4, slots := 31, locals := 100 } : Room) s m #[(.ref a0)] below meth c s₁ [] 0 0 := Stand.of_body Bd
  have e0 : s₁.heap = h0 := by rw [← hh, Bd.state]; rfl
  have N0 := Fr.nil n0
  refine own_cast (P := own_End s (Q_pts Z a0 x1 x2 u1 u2 ob1 kb1 n1 vs1 ob2 kb2 n2 vs2 g1 h0 n0) ({ frames := 6, cells := 4, slots := 31, locals := 100 } : Room).cells ({ frames := 6, cells := 4, slots := 31, locals := 100 } : Room).slots) (ef_pts m a0) ?_
  obtain ⟨T486, h486, X486, e486, E486, A486, D486, -, st486⟩ := newO X0 hx hZ hown (hw _ (List.mem_of_getElem? (i := 80) rfl)) (hw _ (List.mem_of_getElem? (i := 81) rfl)) (hw _ (List.mem_of_getElem? (i := 82) rfl)) e0 (g := (mkF m 0 #[.val (.ref a0)] [])) rfl (hb hby d_pts_0) (by decide) (by decide)
  obtain ⟨b486, g486⟩ : ∃ z, z = h0.size := ⟨_, rfl⟩
  rw [← g486] at A486 D486 st486
  have ne487 : a0 ≠ b486 := Nat.ne_of_lt (Nat.lt_of_lt_of_le (hp0).lt (Nat.le_of_eq g486.symm))
  have ne488 : u1 ≠ b486 := Nat.ne_of_lt (Nat.lt_of_lt_of_le (hp2).lt (Nat.le_of_eq g486.symm))
  have ne489 : ob1 ≠ b486 := Nat.ne_of_lt (Nat.lt_of_lt_of_le (hp5).lt (Nat.le_of_eq g486.symm))
  have ne490 : u2 ≠ b486 := Nat.ne_of_lt (Nat.lt_of_lt_of_le (hp6).lt (Nat.le_of_eq g486.symm))
  have ne491 : ob2 ≠ b486 := Nat.ne_of_lt (Nat.lt_of_lt_of_le (hp9).lt (Nat.le_of_eq g486.symm))
  have Z486 : n0 ≤ h486.size := Nat.le_trans Z0 E486.1
  have K486 : Keep h0 h486 [] := (Keep.refl h0 []).ext E486
  have ge486 : n0 ≤ b486 := Nat.le_trans Z0 (Nat.le_of_eq g486.symm)
  have sz486 : h0.size ≤ b486 := Nat.le_trans (Keep.refl h0 []).1 (Nat.le_of_eq g486.symm)
  have f492 : Fld Z h486 b486 "java/lang/AbstractStringBuilder" "value" "[B" .null := D486 (Or.inl (hw _ (List.mem_of_getElem? (i := 95) rfl))) (ty := (.array .byte)) (by decide)
  have f493 : Fld Z h486 b486 "java/lang/AbstractStringBuilder" "coder" "B" (.int (0 : Int32)) := D486 (Or.inl (hw _ (List.mem_of_getElem? (i := 97) rfl))) (ty := .byte) (by decide)
  have f494 : Fld Z h486 b486 "java/lang/AbstractStringBuilder" "count" "I" (.int (0 : Int32)) := D486 (Or.inl (hw _ (List.mem_of_getElem? (i := 119) rfl))) (ty := .int) (by decide)
  refine own_go st486 ?_
  show own_Got p e below _ T486 (mkF m 3 #[.val (.ref a0)] [(.ref b486)])
  refine g_dup X486 hx hby d_pts_3 rfl (rfl : 3 + 1 = 4) ?_
  have f496 : Sta Z h486 "java/lang/String" "COMPACT_STRINGS" "Z" (.int g1) := (Sta.ext E486 hp10)
  have f497 : Fld Z h486 a0 "com/example/forcon/forcon/model/Permission" "operation" "Ljava/lang/String;" (.ref u1) := (Fld.ext E486 hp0)
  have f498 : Exa Z h486 u1 "java/lang/String" := (Exa.ext E486 hp2)
  have f499 : Arv Z h486 ob1 kb1 .byte n1 vs1 (.int (0 : Int32)) := (hp5.ext E486)
  have f500 : Exa Z h486 u2 "java/lang/String" := (Exa.ext E486 hp6)
  have f501 : Arv Z h486 ob2 kb2 .byte n2 vs2 (.int (0 : Int32)) := (hp9.ext E486)
  obtain ⟨_, _, ⟨T495, L495, k495, n495⟩, -, X495, ⟨Lc495, hQ495, l495, y495, z495⟩, st495⟩ := X486.specialBack hx (y := (⟨"java/lang/StringBuilder", "<init>", "()V"⟩ : MethodName)) rfl hown (mvT hZ (hw _ (List.mem_of_getElem? (i := 83) rfl))) (mvT hZ (hw _ (List.mem_of_getElem? (i := 84) rfl))) (mvT hZ (hw _ (List.mem_of_getElem? (i := 85) rfl))) (by decide) (backOf (W := 1) (rm_sbi l Z aT hw [] b486 g1 h486 n0 Z486 A486 f492 f493 f494 ge486 f496 hg1) hZ (hw _ (List.mem_of_getElem? (i := 85) rfl)) (hw _ (List.mem_of_getElem? (i := 82) rfl)) (by decide) (by decide)) (g := (mkF m 4 #[.val (.ref a0)] [(.ref b486), (.ref b486)])) rfl (by rw [hml]; rfl) (Steps.refl _) (a := b486) (argsL := []) (rest := [(.ref b486)]) (lenOf pd24 rfl) rfl (by show 2 * 0 + _ ≤ _; exact Nat.le_of_eq rfl) (hb hby d_pts_4) (fun _ _ => ⟨rfl, e486, (by decide : 1 + 1 ≤ _), (by decide : 4 + 16 ≤ _)⟩)
  dsimp only [Pt.U, Pt.locs, Pt.cells, Pt.slots] at X495 l495 y495 z495 st495 hQ495
  subst l495 y495 z495
  obtain ⟨vb_495, kv_495, rfl, N495q, K495, q495_0, q495_1, q495_2, q495_3, q495_4, q495_5, q495_6⟩ := hQ495
  have N495 := Fr.app N0 N495q
  have Z495 : n0 ≤ T495.heap.size := Nat.le_trans Z486 K495.1
  have KC495 : Keep h0 T495.heap [] := K486.trans K495 (allS (Or.inr sz486) all0)
  have ne502 : a0 ≠ vb_495 := Nat.ne_of_lt (Nat.lt_of_lt_of_le (f497).lt q495_4)
  have ne503 : u1 ≠ vb_495 := Nat.ne_of_lt (Nat.lt_of_lt_of_le (f498).lt q495_4)
  have ne504 : ob1 ≠ vb_495 := Nat.ne_of_lt (Nat.lt_of_lt_of_le (f499).lt q495_4)
  have ne505 : u2 ≠ vb_495 := Nat.ne_of_lt (Nat.lt_of_lt_of_le (f500).lt q495_4)
  have ne506 : ob2 ≠ vb_495 := Nat.ne_of_lt (Nat.lt_of_lt_of_le (f501).lt q495_4)
  have ne507 : b486 ≠ vb_495 := Nat.ne_of_lt (Nat.lt_of_lt_of_le (A486).lt q495_4)
  have ge508 : n0 ≤ vb_495 := Nat.le_trans Z486 q495_4
  have sz509 : h0.size ≤ vb_495 := Nat.le_trans K486.1 q495_4
  refine own_tr st495 ?_
  show own_Got p e below _ T495 (mkF m 7 #[.val (.ref a0)] [(.ref b486)])
  refine g_aloadN X495 hx hby d_pts_7 rfl rfl (rfl : 7 + 1 = 8) ?_
  have f510 : Fld Z T495.heap a0 "com/example/forcon/forcon/model/Permission" "operation" "Ljava/lang/String;" (.ref u1) := (Fld.keep f497 K495 (ninS ne487 nin0))
  obtain ⟨T511, X511, e511, st511⟩ := getF X495 hx hZ hown (host := "") (Or.inl (hw _ (List.mem_of_getElem? (i := 39) rfl))) Via.refl rfl f510 (g := (mkF m 8 #[.val (.ref a0)] [(.ref a0), (.ref b486)])) rfl rfl (hb hby d_pts_8)
  refine own_go st511 ?_
  show own_Got p e below _ T511 (mkF m 11 #[.val (.ref a0)] [(.ref u1), (.ref b486)])
  have f513 : Exa Z T495.heap u1 "java/lang/String" := (Exa.keep f498 K495)
  have f514 : Fld Z T495.heap u1 "java/lang/String" "coder" "B" (.int (0 : Int32)) := (Fld.keep (Fld.ext E486 hp3) K495 (ninS ne488 nin0))
  have f515 : Fld Z T495.heap u1 "java/lang/String" "value" "[B" (.ref ob1) := (Fld.keep (Fld.ext E486 hp4) K495 (ninS ne488 nin0))
  have f516 : Arv Z T495.heap ob1 kb1 .byte n1 vs1 (.int (0 : Int32)) := (Arv.keep f499 K495 (ninS ne489 nin0))
  have f517 : Sta Z T495.heap "java/lang/String" "COMPACT_STRINGS" "Z" (.int g1) := (own_stakeep f496 K495 A486)
  have f518 : Exa Z T495.heap u2 "java/lang/String" := (Exa.keep f500 K495)
  have f519 : Arv Z T495.heap ob2 kb2 .byte n2 vs2 (.int (0 : Int32)) := (Arv.keep f501 K495 (ninS ne491 nin0))
  obtain ⟨cq512, kq512, q512a, q512b, q512c⟩ := isOf hZ e511 q495_0
  obtain ⟨_, _, ⟨T512, L512, k512, n512⟩, -, X512, ⟨Lc512, hQ512, l512, y512, z512⟩, st512⟩ := X511.virtualBack hx (y := (⟨"java/lang/StringBuilder", "append", "(Ljava/lang/String;)Ljava/lang/StringBuilder;"⟩ : MethodName)) (z := (⟨"java/lang/StringBuilder", "append", "(Ljava/lang/String;)Ljava/lang/StringBuilder;"⟩ : MethodName)) hown (mvT hZ (hw _ (List.mem_of_getElem? (i := 98) rfl))) (mvT hZ (hw _ (List.mem_of_getElem? (i := 99) rfl))) (notFace_of_selects (args := #[]) (mvT hZ (hw _ (List.mem_of_getElem? (i := 101) rfl)))) (mvT hZ (hw _ (List.mem_of_getElem? (i := 101) rfl))) (mvT hZ (hw _ (List.mem_of_getElem? (i := 100) rfl))) (by decide) (backOf (W := 0) (rm_sbs l Z aT hw [] b486 u1 ob1 kb1 n1 vs1 vb_495 kv_495 [(.int (0 : Int32)), (.int (0 : Int32)), (.int (0 : Int32)), (.int (0 : Int32)), (.int (0 : Int32)), (.int (0 : Int32)), (.int (0 : Int32)), (.int (0 : Int32)), (.int (0 : Int32)), (.int (0 : Int32)), (.int (0 : Int32)), (.int (0 : Int32)), (.int (0 : Int32)), (.int (0 : Int32)), (.int (0 : Int32)), (.int (0 : Int32))] (0 : Int32) g1 T495.heap n0 Z495 q495_0 q495_1 q495_2 q495_3 f513 f514 f515 f516 q495_5 q495_6 ge508 ge486 ne507 (Ne.symm ne488) f517 hg1 (own_bd0 (own_stn hst1) : own_bnd (0 : Int32) n1) rfl) hZ (hw _ (List.mem_of_getElem? (i := 102) rfl)) (hw _ (List.mem_of_getElem? (i := 82) rfl)) (by decide) (by decide)) q512a q512c (g := (mkF m 11 #[.val (.ref a0)] [(.ref u1), (.ref b486)])) rfl (by rw [hml]; rfl) (Steps.refl _) (argsL := [(.ref u1)]) (rest := []) (lenOf pd25 rfl) rfl (by show 2 * 0 + _ ≤ _; exact Nat.le_of_eq rfl) (hb hby d_pts_11) (fun _ _ => ⟨rfl, e511, (by decide : 2 + 0 ≤ _), (by decide : 20 + 0 ≤ _)⟩)
  dsimp only [Pt.U, Pt.locs, Pt.cells, Pt.slots] at X512 l512 y512 z512 st512 hQ512
  subst l512 y512 z512
  obtain ⟨vz_512, rfl, N512q, K512, q512_0, q512_1, q512_2, q512_3, q512_4, q512_5, q512_6⟩ := hQ512
  have N512 := Fr.app N495 N512q
  have Z512 : n0 ≤ T512.heap.size := Nat.le_trans Z495 K512.1
  have KC512 : Keep h0 T512.heap [] := KC495.trans K512 (allS (Or.inr sz486) (allS (Or.inr sz509) all0))
  refine own_tr st512 ?_
  show own_Got p e below _ T512 (mkF m 14 #[.val (.ref a0)] [(.ref b486)])
  refine g_bipush X512 hx hby (47 : Int32) d_pts_14 (by decide) (rfl : 14 + 2 = 16) ?_
  have f521 : Sta Z T512.heap "java/lang/String" "COMPACT_STRINGS" "Z" (.int g1) := (own_stakeep2 f517 K512 q495_0 q495_5)
  have f522 : Fld Z T512.heap a0 "com/example/forcon/forcon/model/Permission" "operation" "Ljava/lang/String;" (.ref u1) := (Fld.keep f510 K512 (ninS ne487 (ninS ne502 nin0)))
  have f523 : Exa Z T512.heap u1 "java/lang/String" := (Exa.keep f513 K512)
  have f524 : Arv Z T512.heap ob1 kb1 .byte n1 vs1 (.int (0 : Int32)) := (Arv.keep f516 K512 (ninS ne489 (ninS ne504 nin0)))
  have f525 : Exa Z T512.heap u2 "java/lang/String" := (Exa.keep f518 K512)
  have f526 : Arv Z T512.heap ob2 kb2 .byte n2 vs2 (.int (0 : Int32)) := (Arv.keep f519 K512 (ninS ne491 (ninS ne506 nin0)))
  obtain ⟨cq520, kq520, q520a, q520b, q520c⟩ := isOf hZ rfl q512_0
  obtain ⟨_, _, ⟨T520, L520, k520, n520⟩, -, X520, ⟨Lc520, hQ520, l520, y520, z520⟩, st520⟩ := X512.virtualBack hx (y := (⟨"java/lang/StringBuilder", "append", "(C)Ljava/lang/StringBuilder;"⟩ : MethodName)) (z := (⟨"java/lang/StringBuilder", "append", "(C)Ljava/lang/StringBuilder;"⟩ : MethodName)) hown (mvT hZ (hw _ (List.mem_of_getElem? (i := 145) rfl))) (mvT hZ (hw _ (List.mem_of_getElem? (i := 146) rfl))) (notFace_of_selects (args := #[]) (mvT hZ (hw _ (List.mem_of_getElem? (i := 148) rfl)))) (mvT hZ (hw _ (List.mem_of_getElem? (i := 148) rfl))) (mvT hZ (hw _ (List.mem_of_getElem? (i := 147) rfl))) (by decide) (backOf (W := 0) (rm_sbc l Z aT hw [] b486 vb_495 kv_495 vz_512 ((0 : Int32) + n1) g1 T512.heap n0 Z512 q512_0 q512_1 q512_2 q512_3 q512_4 q512_5 ge508 ge486 ne507 f521 hg1 (own_bd1 (own_stn hst1) : own_bnd ((0 : Int32) + n1) (1 : Int32)) q512_6) hZ (hw _ (List.mem_of_getElem? (i := 149) rfl)) (hw _ (List.mem_of_getElem? (i := 82) rfl)) (by decide) (by decide)) q520a q520c (g := (mkF m 16 #[.val (.ref a0)] [(.int (47 : Int32)), (.ref b486)])) rfl (by rw [hml]; rfl) (Steps.refl _) (argsL := [(.int (47 : Int32))]) (rest := []) (lenOf pd26 rfl) rfl (by show 2 * 0 + _ ≤ _; exact Nat.le_of_eq rfl) (hb hby d_pts_16) (fun _ _ => ⟨rfl, rfl, (by decide : 2 + 0 ≤ _), (by decide : 20 + 0 ≤ _)⟩)
  dsimp only [Pt.U, Pt.locs, Pt.cells, Pt.slots] at X520 l520 y520 z520 st520 hQ520
  subst l520 y520 z520
  obtain ⟨vz_520, rfl, N520q, K520, q520_0, q520_1, q520_2, q520_3, q520_4, q520_5, q520_6⟩ := hQ520
  have N520 := Fr.app N512 N520q
  have Z520 : n0 ≤ T520.heap.size := Nat.le_trans Z512 K520.1
  have KC520 : Keep h0 T520.heap [] := KC512.trans K520 (allS (Or.inr sz486) (allS (Or.inr sz509) all0))
  refine own_tr st520 ?_
  show own_Got p e below _ T520 (mkF m 19 #[.val (.ref a0)] [(.ref b486)])
  refine g_aloadN X520 hx hby d_pts_19 rfl rfl (rfl : 19 + 1 = 20) ?_
  have f527 : Fld Z T520.heap a0 "com/example/forcon/forcon/model/Permission" "object" "Ljava/lang/String;" (.ref u2) := (Fld.keep (Fld.keep (Fld.keep (Fld.ext E486 hp1) K495 (ninS ne487 nin0)) K512 (ninS ne487 (ninS ne502 nin0))) K520 (ninS ne487 (ninS ne502 nin0)))
  obtain ⟨T528, X528, e528, st528⟩ := getF X520 hx hZ hown (host := "") (Or.inl (hw _ (List.mem_of_getElem? (i := 42) rfl))) Via.refl rfl f527 (g := (mkF m 20 #[.val (.ref a0)] [(.ref a0), (.ref b486)])) rfl rfl (hb hby d_pts_20)
  refine own_go st528 ?_
  show own_Got p e below _ T528 (mkF m 23 #[.val (.ref a0)] [(.ref u2), (.ref b486)])
  have f530 : Exa Z T520.heap u2 "java/lang/String" := (Exa.keep f525 K520)
  have f531 : Fld Z T520.heap u2 "java/lang/String" "coder" "B" (.int (0 : Int32)) := (Fld.keep (Fld.keep (Fld.keep (Fld.ext E486 hp7) K495 (ninS ne490 nin0)) K512 (ninS ne490 (ninS ne505 nin0))) K520 (ninS ne490 (ninS ne505 nin0)))
  have f532 : Fld Z T520.heap u2 "java/lang/String" "value" "[B" (.ref ob2) := (Fld.keep (Fld.keep (Fld.keep (Fld.ext E486 hp8) K495 (ninS ne490 nin0)) K512 (ninS ne490 (ninS ne505 nin0))) K520 (ninS ne490 (ninS ne505 nin0)))
  have f533 : Arv Z T520.heap ob2 kb2 .byte n2 vs2 (.int (0 : Int32)) := (Arv.keep f526 K520 (ninS ne491 (ninS ne506 nin0)))
  have f534 : Sta Z T520.heap "java/lang/String" "COMPACT_STRINGS" "Z" (.int g1) := (own_stakeep2 f521 K520 q512_0 q512_4)
  have f535 : Fld Z T520.heap a0 "com/example/forcon/forcon/model/Permission" "operation" "Ljava/lang/String;" (.ref u1) := (Fld.keep f522 K520 (ninS ne487 (ninS ne502 nin0)))
  have f536 : Exa Z T520.heap u1 "java/lang/String" := (Exa.keep f523 K520)
  have f537 : Arv Z T520.heap ob1 kb1 .byte n1 vs1 (.int (0 : Int32)) := (Arv.keep f524 K520 (ninS ne489 (ninS ne504 nin0)))
  obtain ⟨cq529, kq529, q529a, q529b, q529c⟩ := isOf hZ e528 q520_0
  obtain ⟨_, _, ⟨T529, L529, k529, n529⟩, -, X529, ⟨Lc529, hQ529, l529, y529, z529⟩, st529⟩ := X528.virtualBack hx (y := (⟨"java/lang/StringBuilder", "append", "(Ljava/lang/String;)Ljava/lang/StringBuilder;"⟩ : MethodName)) (z := (⟨"java/lang/StringBuilder", "append", "(Ljava/lang/String;)Ljava/lang/StringBuilder;"⟩ : MethodName)) hown (mvT hZ (hw _ (List.mem_of_getElem? (i := 98) rfl))) (mvT hZ (hw _ (List.mem_of_getElem? (i := 99) rfl))) (notFace_of_selects (args := #[]) (mvT hZ (hw _ (List.mem_of_getElem? (i := 101) rfl)))) (mvT hZ (hw _ (List.mem_of_getElem? (i := 101) rfl))) (mvT hZ (hw _ (List.mem_of_getElem? (i := 100) rfl))) (by decide) (backOf (W := 0) (rm_sbs l Z aT hw [] b486 u2 ob2 kb2 n2 vs2 vb_495 kv_495 vz_520 (((0 : Int32) + n1) + (1 : Int32)) g1 T520.heap n0 Z520 q520_0 q520_1 q520_2 q520_3 f530 f531 f532 f533 q520_4 q520_5 ge508 ge486 ne507 (Ne.symm ne490) f534 hg1 (own_bd2 (own_stn hst1) (own_stn hst2) : own_bnd (((0 : Int32) + n1) + (1 : Int32)) n2) q520_6) hZ (hw _ (List.mem_of_getElem? (i := 102) rfl)) (hw _ (List.mem_of_getElem? (i := 82) rfl)) (by decide) (by decide)) q529a q529c (g := (mkF m 23 #[.val (.ref a0)] [(.ref u2), (.ref b486)])) rfl (by rw [hml]; rfl) (Steps.refl _) (argsL := [(.ref u2)]) (rest := []) (lenOf pd25 rfl) rfl (by show 2 * 0 + _ ≤ _; exact Nat.le_of_eq rfl) (hb hby d_pts_23) (fun _ _ => ⟨rfl, e528, (by decide : 2 + 0 ≤ _), (by decide : 20 + 0 ≤ _)⟩)
  dsimp only [Pt.U, Pt.locs, Pt.cells, Pt.slots] at X529 l529 y529 z529 st529 hQ529
  subst l529 y529 z529
  obtain ⟨vz_529, rfl, N529q, K529, q529_0, q529_1, q529_2, q529_3, q529_4, q529_5, q529_6⟩ := hQ529
  have N529 := Fr.app N520 N529q
  have Z529 : n0 ≤ T529.heap.size := Nat.le_trans Z520 K529.1
  have KC529 : Keep h0 T529.heap [] := KC520.trans K529 (allS (Or.inr sz486) (allS (Or.inr sz509) all0))
  refine own_tr st529 ?_
  show own_Got p e below _ T529 (mkF m 26 #[.val (.ref a0)] [(.ref b486)])
  have f539 : Sta Z T529.heap "java/lang/String" "COMPACT_STRINGS" "Z" (.int g1) := (own_stakeep2 f534 K529 q520_0 q520_4)
  have f540 : Fld Z T529.heap a0 "com/example/forcon/forcon/model/Permission" "operation" "Ljava/lang/String;" (.ref u1) := (Fld.keep f535 K529 (ninS ne487 (ninS ne502 nin0)))
  have f541 : Exa Z T529.heap u1 "java/lang/String" := (Exa.keep f536 K529)
  have f542 : Arv Z T529.heap ob1 kb1 .byte n1 vs1 (.int (0 : Int32)) := (Arv.keep f537 K529 (ninS ne489 (ninS ne504 nin0)))
  have f543 : Exa Z T529.heap u2 "java/lang/String" := (Exa.keep f530 K529)
  have f544 : Arv Z T529.heap ob2 kb2 .byte n2 vs2 (.int (0 : Int32)) := (Arv.keep f533 K529 (ninS ne491 (ninS ne506 nin0)))
  obtain ⟨cq538, kq538, q538a, q538b, q538c⟩ := isOf hZ rfl q529_0
  obtain ⟨_, _, ⟨T538, L538, k538, n538⟩, -, X538, ⟨Lc538, hQ538, l538, y538, z538⟩, st538⟩ := X529.virtualBack hx (y := (⟨"java/lang/StringBuilder", "toString", "()Ljava/lang/String;"⟩ : MethodName)) (z := (⟨"java/lang/StringBuilder", "toString", "()Ljava/lang/String;"⟩ : MethodName)) hown (mvT hZ (hw _ (List.mem_of_getElem? (i := 162) rfl))) (mvT hZ (hw _ (List.mem_of_getElem? (i := 163) rfl))) (notFace_of_selects (args := #[]) (mvT hZ (hw _ (List.mem_of_getElem? (i := 165) rfl)))) (mvT hZ (hw _ (List.mem_of_getElem? (i := 165) rfl))) (mvT hZ (hw _ (List.mem_of_getElem? (i := 164) rfl))) (by decide) (backOf (W := 0) (rm_sts l Z aT hw [] b486 vb_495 kv_495 vz_529 ((((0 : Int32) + n1) + (1 : Int32)) + n2) g1 T529.heap n0 Z529 q529_0 q529_1 q529_2 q529_3 q529_5 f539 hg1 (own_bd3 (own_stn hst1) (own_stn hst2) : own_17 ((((0 : Int32) + n1) + (1 : Int32)) + n2))) hZ (hw _ (List.mem_of_getElem? (i := 166) rfl)) (hw _ (List.mem_of_getElem? (i := 82) rfl)) (by decide) (by decide)) q538a q538c (g := (mkF m 26 #[.val (.ref a0)] [(.ref b486)])) rfl (by rw [hml]; rfl) (Steps.refl _) (argsL := []) (rest := []) (lenOf pd27 rfl) rfl (by show 2 * 0 + _ ≤ _; exact Nat.le_of_eq rfl) (hb hby d_pts_26) (fun _ _ => ⟨rfl, rfl, (by decide : 2 + 2 ≤ _), (by decide : 20 + 11 ≤ _)⟩)
  dsimp only [Pt.U, Pt.locs, Pt.cells, Pt.slots] at X538 l538 y538 z538 st538 hQ538
  subst l538 y538 z538
  obtain ⟨oz_538, rfl, N538q, K538, q538_0, q538_1⟩ := hQ538
  have N538 := Fr.app N529 N538q
  have Z538 : n0 ≤ T538.heap.size := Nat.le_trans Z529 K538.1
  have KC538 : Keep h0 T538.heap [] := KC529.trans K538 all0
  have ne545 : a0 ≠ oz_538 := Nat.ne_of_lt (Nat.lt_of_lt_of_le (f540).lt q538_0)
  have ne546 : u1 ≠ oz_538 := Nat.ne_of_lt (Nat.lt_of_lt_of_le (f541).lt q538_0)
  have ne547 : ob1 ≠ oz_538 := Nat.ne_of_lt (Nat.lt_of_lt_of_le (f542).lt q538_0)
  have ne548 : u2 ≠ oz_538 := Nat.ne_of_lt (Nat.lt_of_lt_of_le (f543).lt q538_0)
  have ne549 : ob2 ≠ oz_538 := Nat.ne_of_lt (Nat.lt_of_lt_of_le (f544).lt q538_0)
  have ne550 : b486 ≠ oz_538 := Nat.ne_of_lt (Nat.lt_of_lt_of_le (q529_0).lt q538_0)
  have ne551 : vb_495 ≠ oz_538 := Nat.ne_of_lt (Nat.lt_of_lt_of_le (q529_4).lt q538_0)
  have ge552 : n0 ≤ oz_538 := Nat.le_trans Z529 q538_0
  have sz553 : h0.size ≤ oz_538 := Nat.le_trans KC529.1 q538_0
  refine own_tr st538 ?_
  show own_Got p e below _ T538 (mkF m 29 #[.val (.ref a0)] [(.ref oz_538)])
  refine own_retR X538 hx hby hlk hrt rfl d_pts_29 (by decide) (by decide) rfl ?_
  show Q_pts Z a0 x1 x2 u1 u2 ob1 kb1 n1 vs1 ob2 kb2 n2 vs2 g1 h0 n0 _ T538.heap _
  exact ⟨oz_538, rfl, N538, KC538, sz553, q538_1⟩
theorem own_sl (x y : Int32) : F_leq x y = F_sam x y := by
  have q0 : (own_b0 x = own_b0 y) = ((x &&& (255 : Int32)) = (y &&& (255 : Int32))) := propext (own_binj x y)
  have q1 : (own_b1 x = own_b1 y) = ((((x.toUInt32 >>> ((8 : Int32) &&& 31).toUInt32).toInt32) &&& (255 : Int32)) = (((y.toUInt32 >>> ((8 : Int32) &&& 31).toUInt32).toInt32) &&& (255 : Int32))) := propext (own_binj _ _)
  have q2 : (own_b2 x = own_b2 y) = ((((x.toUInt32 >>> ((16 : Int32) &&& 31).toUInt32).toInt32) &&& (255 : Int32)) = (((y.toUInt32 >>> ((16 : Int32) &&& 31).toUInt32).toInt32) &&& (255 : Int32))) := propext (own_binj _ _)
  have ex : (((x.toUInt32 >>> ((24 : Int32) &&& 31).toUInt32).toInt32) &&& (3 : Int32)) = own_L x := rfl
  have ey : (((y.toUInt32 >>> ((24 : Int32) &&& 31).toUInt32).toInt32) &&& (3 : Int32)) = own_L y := rfl
  unfold F_leq F_sam
  rw [ex, ey]
  simp only [q0, q1, q2]
  generalize (x &&& (255 : Int32)) = p0
  generalize (((x.toUInt32 >>> ((8 : Int32) &&& 31).toUInt32).toInt32) &&& (255 : Int32)) = p1
  generalize (((x.toUInt32 >>> ((16 : Int32) &&& 31).toUInt32).toInt32) &&& (255 : Int32)) = p2
  generalize (y &&& (255 : Int32)) = r0
  generalize (((y.toUInt32 >>> ((8 : Int32) &&& 31).toUInt32).toInt32) &&& (255 : Int32)) = r1
  generalize (((y.toUInt32 >>> ((16 : Int32) &&& 31).toUInt32).toInt32) &&& (255 : Int32)) = r2
  rcases own_Lc x with hx | hx | hx | hx <;> rcases own_Lc y with hy | hy | hy | hy <;> simp [hx, hy]
theorem own_leqS (x y : Int32) : F_leq x y = F_leq y x := by
  unfold F_leq
  have c0 : (own_b0 x = own_b0 y) = (own_b0 y = own_b0 x) := propext eq_comm
  have c1 : (own_b1 x = own_b1 y) = (own_b1 y = own_b1 x) := propext eq_comm
  have c2 : (own_b2 x = own_b2 y) = (own_b2 y = own_b2 x) := propext eq_comm
  simp only [c0, c1, c2]
  rcases own_Lc x with hx | hx | hx | hx <;> rcases own_Lc y with hy | hy | hy | hy <;> simp [hx, hy]
theorem own_peq (a b c d : Int32) : F_peq a b c d = if (F_sam a c) = (0 : Int32) then (0 : Int32) else (if (F_sam b d) = (0 : Int32) then (0 : Int32) else (1 : Int32)) := by
  unfold F_peq F_seq
  rw [own_sl, own_sl]
  by_cases h1 : F_sam a c = 0 <;> by_cases h2 : F_sam b d = 0 <;> simp [h1, h2]
theorem own_peqS (a b c d : Int32) : F_peq c d a b = if (F_sam a c) = (0 : Int32) then (0 : Int32) else (if (F_sam b d) = (0 : Int32) then (0 : Int32) else (1 : Int32)) := by
  rw [own_peq, ← own_sl c a, own_leqS c a, own_sl a c, ← own_sl d b, own_leqS d b, own_sl b d]

theorem pd28 : parseMethodDescriptor "(I)Ljava/lang/String;" = some ⟨[.int], some (.object "java/lang/String")⟩ := by decide +kernel
theorem pd29 : parseMethodDescriptor "(Ljava/lang/String;Ljava/lang/String;)V" = some ⟨[(.object "java/lang/String"), (.object "java/lang/String")], none⟩ := by decide +kernel
theorem pd30 : parseMethodDescriptor "(II)Z" = some ⟨[.int, .int], some .boolean⟩ := by decide +kernel
theorem ef_law (m : MethodId) (x0 : Int32) (x1 : Int32) (x2 : Int32) (x3 : Int32) (x4 : Int32) : entryFrame m #[(.int x0), (.int x1), (.int x2), (.int x3), (.int x4)] maxLocals = mkF m 0 #[.val (.int x0), .val (.int x1), .val (.int x2), .val (.int x3), .val (.int x4), .unset, .unset, .unset, .unset, .unset, .unset, .unset, .unset] [] := by first | (simp [entryFrame, mkF, argsToLocals, Value.category, maxLocals]; done) | rfl
def Q_law (Z : State) (x0 : Int32) (x1 : Int32) (x2 : Int32) (x3 : Int32) (x4 : Int32) (g1 : Int32) (h0 : Heap) (n0 : Nat) (v : Option Value) (h : Heap) (L : List Loc) : Prop := v = some (.int (1 : Int32)) ∧ Fr n0 L
set_option maxRecDepth 65536 in
set_option maxHeartbeats 40000000 in
theorem rm_law (l : Launch) (Z : State) (aT : Array Value) (hw : ∀ d ∈ tables_1, d.before aT Z = true) (ws : List Jvm.Cond) (x0 : Int32) (x1 : Int32) (x2 : Int32) (x3 : Int32) (x4 : Int32) (g1 : Int32) (h0 : Heap) (n0 : Nat) (Z0 : n0 ≤ h0.size) (hp0 : Sta Z h0 "java/lang/String" "COMPACT_STRINGS" "Z" (.int g1)) (hg1 : ¬ (g1 = (0 : Int32))) :
    MetFree l x (head1 (Jvm.Cond.code x code maxLocals ret :: ws) room_1) (fun a U => a = #[(.int x0), (.int x1), (.int x2), (.int x3), (.int x4)] ∧ Z.Warmed39 U.vm ∧ U.heap = h0 ∧ CHv Z consts_1 U.vm h0) (fun _ _ _ _ _ => True) (fun _ U o U' => ∃ v L, o = .returned v ∧ Q_law Z x0 x1 x2 x3 x4 g1 h0 n0 v U'.heap L ∧ CHr Z consts_1 U.vm U.heap U'.vm U'.heap ∧ ReturnedEndW U o U' L 48 3264) := by
  refine MetFree.of_bodySF (plainFor_of_name pn2) hisR ?_
  intro p e s m args below meth c s₁ Bd hml0 hP hK
  obtain ⟨rfl, hZ, hh, CH⟩ := hP
  have hx := Bd.exec
  have hby := Bd.bytes
  have hml : c.maxLocals = 13 := hml0
  have hown : (s.setVm s.vm).vm.findClass "com/example/forcon/forcon/model/PermissionEqualsPinLaw" = some m.cls := findClass_of_methodNamed Bd.named
  have hnm := (name_of_methodNamed Bd.named Bd.method).1
  have hlk := Bd.notSynchronized
  have hrt := Bd.returns
  have hZ : Z.Warmed39 (s.setVm s.vm).vm := hZ
  have hS : s.Since s.vm h0.size := (State.WarmedH.refl s).since _
  have hkk : h0.size ≤ h0.size := Nat.le_refl _
  have hEL := own_EL hw
  have CR0 : CHr Z consts_1 s.vm s.heap s.vm h0 := by rw [hh]; exact CHr.refl CH
  have X0 : Stand p l e room_1 (s.setVm s.vm) m #[(.int x0), (.int x1), (.int x2), (.int x3), (.int x4)] below meth c s₁ [] 0 0 := Stand.of_body Bd
  have e0 : s₁.heap = h0 := by rw [← hh, Bd.state]; rfl
  have N0 := Fr.nil n0
  refine own_cast (P := own_EndW Z consts_1 s (Q_law Z x0 x1 x2 x3 x4 g1 h0 n0) 48 3264) (ef_law m x0 x1 x2 x3 x4) ?_
  generalize hPP : own_EndW Z consts_1 s (Q_law Z x0 x1 x2 x3 x4 g1 h0 n0) 48 3264 = PP
  obtain ⟨T554, h554, X554, e554, E554, A554, D554, -, st554⟩ := newO X0 hx hZ hown (hw _ (List.mem_of_getElem? (i := 0) rfl)) (hw _ (List.mem_of_getElem? (i := 1) rfl)) (hw _ (List.mem_of_getElem? (i := 2) rfl)) e0 (g := (mkF m 0 #[.val (.int x0), .val (.int x1), .val (.int x2), .val (.int x3), .val (.int x4), .unset, .unset, .unset, .unset, .unset, .unset, .unset, .unset] [])) rfl (hb hby at_0) (by decide) (by decide)
  obtain ⟨b554, g554⟩ : ∃ z, z = h0.size := ⟨_, rfl⟩
  rw [← g554] at A554 D554 st554
  have Z554 : n0 ≤ h554.size := Nat.le_trans Z0 E554.1
  have hkk := Nat.le_trans hkk E554.1
  have CR554 := CHr.trans CR0 (CHr.ext E554 CR0.1)
  have sf555 := Safe.ext E554 CR0.1 (Safe.new (Nat.le_of_eq g554.symm))
  have ge554 : n0 ≤ b554 := Nat.le_trans Z0 (Nat.le_of_eq g554.symm)
  have f556 : Fld Z h554 b554 "com/example/forcon/forcon/model/Permission" "operation" "Ljava/lang/String;" .null := D554 (Or.inr (hw _ (List.mem_of_getElem? (i := 40) rfl))) (ty := (.object "java/lang/String")) (by decide)
  have f557 : Fld Z h554 b554 "com/example/forcon/forcon/model/Permission" "object" "Ljava/lang/String;" .null := D554 (Or.inr (hw _ (List.mem_of_getElem? (i := 43) rfl))) (ty := (.object "java/lang/String")) (by decide)
  refine own_go st554 ?_
  show own_Got p e below _ T554 (mkF m 3 #[.val (.int x0), .val (.int x1), .val (.int x2), .val (.int x3), .val (.int x4), .unset, .unset, .unset, .unset, .unset, .unset, .unset, .unset] [(.ref b554)])
  refine g_dup X554 hx hby at_3 rfl (rfl : 3 + 1 = 4) ?_
  refine g_iloadN X554 hx hby at_4 rfl (rfl : 4 + 1 = 5) ?_
  have f559 : Sta Z h554 "java/lang/String" "COMPACT_STRINGS" "Z" (.int g1) := (Sta.ext E554 hp0)
  obtain ⟨_, _, ⟨T558, L558, k558, n558⟩, -, X558, S2558, gr558, ⟨Lc558, hQ558, l558, y558, z558, C558⟩, st558⟩ := Jvm.RoadKit.callSS X554 hx (y := (⟨"com/example/forcon/forcon/model/PermissionEqualsPinLaw", "str", "(I)Ljava/lang/String;"⟩ : MethodName)) hown (mvT hZ (hw _ (List.mem_of_getElem? (i := 3) rfl))) (mvT hZ (hw _ (List.mem_of_getElem? (i := 4) rfl))) (mvT hZ (hw _ (List.mem_of_getElem? (i := 5) rfl))) (mvT hZ (hw _ (List.mem_of_getElem? (i := 6) rfl))) (by decide) (backOfSH (W := 2) (rm_str l Z aT hw [] x0 g1 h554 n0 Z554 f559 hg1) hZ (hw _ (List.mem_of_getElem? (i := 6) rfl)) (hw _ (List.mem_of_getElem? (i := 5) rfl)) (by decide) (by decide) hEL CR554.1) (g := (mkF m 5 #[.val (.int x0), .val (.int x1), .val (.int x2), .val (.int x3), .val (.int x4), .unset, .unset, .unset, .unset, .unset, .unset, .unset, .unset] [(.int x0), (.ref b554), (.ref b554)])) rfl (by rw [hml]; rfl) (argsL := [(.int x0)]) (rest := [(.ref b554), (.ref b554)]) (lenOf pd28 rfl) rfl (by show 2 * 0 + _ ≤ _; exact Nat.le_of_eq rfl) (hb hby at_5) (fun _ _ => ⟨rfl, e554, (by decide : 1 + 6 ≤ _), (by decide : 2 + 12 ≤ _)⟩)
  dsimp only [Pt.U, Pt.locs, Pt.cells, Pt.slots] at X558 l558 y558 z558 st558 hQ558 C558 S2558 gr558
  subst l558 y558 z558
  obtain ⟨X558, hS, hZ, hown⟩ := rebS hS (Nat.le_trans hkk (Nat.le_of_eq (congrArg Array.size e554.symm))) X558 S2558 gr558 hZ hown
  obtain ⟨os_558, ob_558, kb_558, n_558, vs_558, rfl, N558q, K558, q558_0, q558_1, q558_2, q558_3, q558_4, q558_5⟩ := hQ558
  have N558 := Fr.app N0 N558q
  have Z558 : n0 ≤ T558.heap.size := Nat.le_trans Z554 K558.1
  have hkk := Nat.le_trans hkk (Nat.le_refl _)
  have CR558 := CHr.trans CR554 (C558)
  have sf560 := CHr.safe C558 A554.lt sf555
  have hkk := Nat.le_refl (T558.heap.size)
  have ne561 : b554 ≠ os_558 := Nat.ne_of_lt (Nat.lt_of_lt_of_le (A554).lt q558_0)
  have ge562 : n0 ≤ os_558 := Nat.le_trans Z554 q558_0
  have f564 : Exa Z T558.heap b554 "com/example/forcon/forcon/model/Permission" := (Exa.keep A554 K558)
  have ne563 : b554 ≠ ob_558 := Exa.neArv f564 q558_4 (hw _ (List.mem_of_getElem? (i := 1) rfl))
  have ne565 : os_558 ≠ ob_558 := Exa.neArv q558_1 q558_4 (hw _ (List.mem_of_getElem? (i := 8) rfl))
  refine own_tr st558 ?_
  show own_Got p e below _ T558 (mkF m 8 #[.val (.int x0), .val (.int x1), .val (.int x2), .val (.int x3), .val (.int x4), .unset, .unset, .unset, .unset, .unset, .unset, .unset, .unset] [(.ref os_558), (.ref b554), (.ref b554)])
  refine g_iloadN X558 hx hby at_8 rfl (rfl : 8 + 1 = 9) ?_
  have f567 : Sta Z T558.heap "java/lang/String" "COMPACT_STRINGS" "Z" (.int g1) := (own_stakeep0 f559 K558)
  obtain ⟨_, _, ⟨T566, L566, k566, n566⟩, -, X566, S2566, gr566, ⟨Lc566, hQ566, l566, y566, z566, C566⟩, st566⟩ := Jvm.RoadKit.callSS X558 hx (y := (⟨"com/example/forcon/forcon/model/PermissionEqualsPinLaw", "str", "(I)Ljava/lang/String;"⟩ : MethodName)) hown (mvT hZ (hw _ (List.mem_of_getElem? (i := 3) rfl))) (mvT hZ (hw _ (List.mem_of_getElem? (i := 4) rfl))) (mvT hZ (hw _ (List.mem_of_getElem? (i := 5) rfl))) (mvT hZ (hw _ (List.mem_of_getElem? (i := 6) rfl))) (by decide) (backOfSH (W := 3) (rm_str l Z aT hw [] x1 g1 T558.heap n0 Z558 f567 hg1) hZ (hw _ (List.mem_of_getElem? (i := 6) rfl)) (hw _ (List.mem_of_getElem? (i := 5) rfl)) (by decide) (by decide) hEL CR558.1) (g := (mkF m 9 #[.val (.int x0), .val (.int x1), .val (.int x2), .val (.int x3), .val (.int x4), .unset, .unset, .unset, .unset, .unset, .unset, .unset, .unset] [(.int x1), (.ref os_558), (.ref b554), (.ref b554)])) rfl (by rw [hml]; rfl) (argsL := [(.int x1)]) (rest := [(.ref os_558), (.ref b554), (.ref b554)]) (lenOf pd28 rfl) rfl (by show 2 * 0 + _ ≤ _; exact Nat.le_of_eq rfl) (hb hby at_9) (fun _ _ => ⟨rfl, rfl, (by decide : 7 + 6 ≤ _), (by decide : 14 + 12 ≤ _)⟩)
  dsimp only [Pt.U, Pt.locs, Pt.cells, Pt.slots] at X566 l566 y566 z566 st566 hQ566 C566 S2566 gr566
  subst l566 y566 z566
  obtain ⟨X566, hS, hZ, hown⟩ := rebS hS (Nat.le_trans hkk (Nat.le_of_eq (congrArg Array.size rfl.symm))) X566 S2566 gr566 hZ hown
  obtain ⟨os_566, ob_566, kb_566, n_566, vs_566, rfl, N566q, K566, q566_0, q566_1, q566_2, q566_3, q566_4, q566_5⟩ := hQ566
  have N566 := Fr.app N558 N566q
  have Z566 : n0 ≤ T566.heap.size := Nat.le_trans Z558 K566.1
  have hkk := Nat.le_trans hkk (Nat.le_refl _)
  have CR566 := CHr.trans CR558 (C566)
  have sf568 := CHr.safe C566 f564.lt sf560
  have hkk := Nat.le_refl (T566.heap.size)
  have ne569 : b554 ≠ os_566 := Nat.ne_of_lt (Nat.lt_of_lt_of_le (f564).lt q566_0)
  have ne570 : os_558 ≠ os_566 := Nat.ne_of_lt (Nat.lt_of_lt_of_le (q558_1).lt q566_0)
  have ne571 : ob_558 ≠ os_566 := Nat.ne_of_lt (Nat.lt_of_lt_of_le (q558_4).lt q566_0)
  have ge572 : n0 ≤ os_566 := Nat.le_trans Z558 q566_0
  have f574 : Exa Z T566.heap b554 "com/example/forcon/forcon/model/Permission" := (Exa.keep f564 K566)
  have ne573 : b554 ≠ ob_566 := Exa.neArv f574 q566_4 (hw _ (List.mem_of_getElem? (i := 1) rfl))
  have f576 : Exa Z T566.heap os_558 "java/lang/String" := (Exa.keep q558_1 K566)
  have ne575 : os_558 ≠ ob_566 := Exa.neArv f576 q566_4 (hw _ (List.mem_of_getElem? (i := 8) rfl))
  have ne577 : os_566 ≠ ob_566 := Exa.neArv q566_1 q566_4 (hw _ (List.mem_of_getElem? (i := 8) rfl))
  refine own_tr st566 ?_
  show own_Got p e below _ T566 (mkF m 12 #[.val (.int x0), .val (.int x1), .val (.int x2), .val (.int x3), .val (.int x4), .unset, .unset, .unset, .unset, .unset, .unset, .unset, .unset] [(.ref os_566), (.ref os_558), (.ref b554), (.ref b554)])
  have f579 : Fld Z T566.heap b554 "com/example/forcon/forcon/model/Permission" "operation" "Ljava/lang/String;" .null := (Fld.keep (Fld.keep f556 K558 nin0) K566 nin0)
  have f580 : Fld Z T566.heap b554 "com/example/forcon/forcon/model/Permission" "object" "Ljava/lang/String;" .null := (Fld.keep (Fld.keep f557 K558 nin0) K566 nin0)
  have f581 : Arv Z T566.heap ob_558 kb_558 .byte n_558 vs_558 (.int (0 : Int32)) := (Arv.keep q558_4 K566 nin0)
  obtain ⟨_, _, ⟨T578, L578, k578, n578⟩, -, X578, S2578, gr578, ⟨Lc578, hQ578, l578, y578, z578, C578⟩, st578⟩ := X566.specialBackS hx (y := (⟨"com/example/forcon/forcon/model/Permission", "<init>", "(Ljava/lang/String;Ljava/lang/String;)V"⟩ : MethodName)) rfl hown (mvT hZ (hw _ (List.mem_of_getElem? (i := 29) rfl))) (mvT hZ (hw _ (List.mem_of_getElem? (i := 30) rfl))) (mvT hZ (hw _ (List.mem_of_getElem? (i := 31) rfl))) (by decide) (backOfSH (W := 1) (rm_pin l Z aT hw [] b554 os_558 os_566 T566.heap n0 Z566 f574 f579 f580 ge554 f576 q566_1) hZ (hw _ (List.mem_of_getElem? (i := 31) rfl)) (hw _ (List.mem_of_getElem? (i := 2) rfl)) (by decide) (by decide) hEL CR566.1) (g := (mkF m 12 #[.val (.int x0), .val (.int x1), .val (.int x2), .val (.int x3), .val (.int x4), .unset, .unset, .unset, .unset, .unset, .unset, .unset, .unset] [(.ref os_566), (.ref os_558), (.ref b554), (.ref b554)])) rfl (by rw [hml]; rfl) (Steps.refl _) (a := b554) (argsL := [(.ref os_558), (.ref os_566)]) (rest := [(.ref b554)]) (lenOf pd29 rfl) rfl (by show 2 * 0 + _ ≤ _; exact Nat.le_of_eq rfl) (hb hby at_12) (fun _ _ => ⟨rfl, rfl, (by decide : 13 + 4 ≤ _), (by decide : 26 + 68 ≤ _)⟩)
  dsimp only [Pt.U, Pt.locs, Pt.cells, Pt.slots] at X578 l578 y578 z578 st578 hQ578 C578 S2578 gr578
  subst l578 y578 z578
  obtain ⟨X578, hS, hZ, hown⟩ := rebS hS (Nat.le_trans hkk (Nat.le_of_eq (congrArg Array.size rfl.symm))) X578 S2578 gr578 hZ hown
  obtain ⟨rfl, N578q, K578, q578_0, q578_1, q578_2⟩ := hQ578
  have N578 := Fr.app N566 N578q
  have Z578 : n0 ≤ T578.heap.size := Nat.le_trans Z566 K578.1
  have hkk := Nat.le_trans hkk (Nat.le_refl _)
  have CR578 := CHr.trans CR566 (C578)
  have sf582 := CHr.safe C578 f574.lt sf568
  have hkk := Nat.le_refl (T578.heap.size)
  refine own_tr st578 ?_
  show own_Got p e below _ T578 (mkF m 15 #[.val (.int x0), .val (.int x1), .val (.int x2), .val (.int x3), .val (.int x4), .unset, .unset, .unset, .unset, .unset, .unset, .unset, .unset] [(.ref b554)])
  refine g_astore X578 hx hby #[.val (.int x0), .val (.int x1), .val (.int x2), .val (.int x3), .val (.int x4), .val (.ref b554), .unset, .unset, .unset, .unset, .unset, .unset, .unset] at_15 rfl rfl (rfl : 15 + 2 = 17) ?_
  refine g_iload X578 hx hby at_17 rfl (rfl : 17 + 2 = 19) ?_
  refine g_iconst X578 hx hby (3 : Int32) at_19 (by decide) (rfl : 19 + 1 = 20) ?_
  refine g_iand X578 hx hby at_20 (rfl : 20 + 1 = 21) ?_
  refine g_istore X578 hx hby #[.val (.int x0), .val (.int x1), .val (.int x2), .val (.int x3), .val (.int x4), .val (.ref b554), .val (.int (x4 &&& (3 : Int32))), .unset, .unset, .unset, .unset, .unset, .unset] at_21 rfl (rfl : 21 + 2 = 23) ?_
  refine g_iload X578 hx hby at_23 rfl (rfl : 23 + 2 = 25) ?_
  refine g_iconst X578 hx hby (1 : Int32) at_25 (by decide) (rfl : 25 + 1 = 26) ?_
  by_cases c583 : (x4 &&& (3 : Int32)) = (1 : Int32)
  · refine g_icF X578 hx hby at_26 (teq c583).2 (rfl : 26 + 3 = 29) ?_
    refine g_anull X578 hx hby at_29 (rfl : 29 + 1 = 30) ?_
    refine g_astore X578 hx hby #[.val (.int x0), .val (.int x1), .val (.int x2), .val (.int x3), .val (.int x4), .val (.ref b554), .val (.int (x4 &&& (3 : Int32))), .val .null, .unset, .unset, .unset, .unset, .unset] at_30 rfl rfl (rfl : 30 + 2 = 32) ?_
    refine g_aload X578 hx hby at_32 rfl rfl (rfl : 32 + 2 = 34) ?_
    refine g_aload X578 hx hby at_34 rfl rfl (rfl : 34 + 2 = 36) ?_
    obtain ⟨cq584, kq584, q584a, q584b, q584c⟩ := isOf hZ rfl q578_0
    obtain ⟨_, _, ⟨T584, L584, k584, n584⟩, -, X584, ⟨Lc584, hQ584, l584, y584, z584⟩, st584⟩ := X578.virtualBack hx (y := (⟨"com/example/forcon/forcon/model/Permission", "equals", "(Ljava/lang/Object;)Z"⟩ : MethodName)) (z := (⟨"com/example/forcon/forcon/model/Permission", "equals", "(Ljava/lang/Object;)Z"⟩ : MethodName)) hown (mvT hZ (hw _ (List.mem_of_getElem? (i := 47) rfl))) (mvT hZ (hw _ (List.mem_of_getElem? (i := 48) rfl))) (notFace_of_selects (args := #[]) (mvT hZ (hw _ (List.mem_of_getElem? (i := 50) rfl)))) (mvT hZ (hw _ (List.mem_of_getElem? (i := 50) rfl))) (mvT hZ (hw _ (List.mem_of_getElem? (i := 49) rfl))) (by decide) (backOf (W := 0) (rm_peN l Z aT hw [] b554 T578.heap n0 Z578) hZ (hw _ (List.mem_of_getElem? (i := 51) rfl)) (hw _ (List.mem_of_getElem? (i := 2) rfl)) (by decide) (by decide)) q584a q584c (g := (mkF m 36 #[.val (.int x0), .val (.int x1), .val (.int x2), .val (.int x3), .val (.int x4), .val (.ref b554), .val (.int (x4 &&& (3 : Int32))), .val .null, .unset, .unset, .unset, .unset, .unset] [.null, (.ref b554)])) rfl (by rw [hml]; rfl) (Steps.refl _) (argsL := [.null]) (rest := []) (lenOf pd7 rfl) rfl (by show 2 * 0 + _ ≤ _; exact Nat.le_of_eq rfl) (hb hby at_36) (fun _ _ => ⟨rfl, rfl, (by decide : 17 + 0 ≤ _), (by decide : 94 + 0 ≤ _)⟩)
    dsimp only [Pt.U, Pt.locs, Pt.cells, Pt.slots] at X584 l584 y584 z584 st584 hQ584
    subst l584 y584 z584
    obtain ⟨rfl, N584q, eq584⟩ := hQ584
    have N584 := Fr.app N578 N584q
    refine own_tr st584 ?_
    show own_Got p e below _ T584 (mkF m 39 #[.val (.int x0), .val (.int x1), .val (.int x2), .val (.int x3), .val (.int x4), .val (.ref b554), .val (.int (x4 &&& (3 : Int32))), .val .null, .unset, .unset, .unset, .unset, .unset] [(.int (0 : Int32))])
    refine g_ifF X584 hx hby at_39 ((if0 _ _).trans (teq (by decide : (0 : Int32) = (0 : Int32))).2) (rfl : 39 + 3 = 42) ?_
    refine g_iconst X584 hx hby (1 : Int32) at_42 (by decide) (rfl : 42 + 1 = 43) ?_
    refine g_goto X584 hx hby at_43 (by decide) (pc' := 47) (by decide) ?_
    subst hPP
    refine own_retNW X584 hx hby hS hkk hZ hEL eq584 CR578 hlk (t := .boolean) hrt (by simp) at_47 (by decide) (by decide) ?_
    show Q_law Z x0 x1 x2 x3 x4 g1 h0 n0 _ T584.heap _
    exact ⟨rfl, N584⟩
  · refine g_icT X578 hx hby at_26 (feq c583).2 (by decide) (pc' := 48) (by decide) ?_
    refine g_iload X578 hx hby at_48 rfl (rfl : 48 + 2 = 50) ?_
    refine g_iconst X578 hx hby (2 : Int32) at_50 (by decide) (rfl : 50 + 1 = 51) ?_
    by_cases c585 : (x4 &&& (3 : Int32)) = (2 : Int32)
    · refine g_icF X578 hx hby at_51 (teq c585).2 (rfl : 51 + 3 = 54) ?_
      refine g_aload X578 hx hby at_54 rfl rfl (rfl : 54 + 2 = 56) ?_
      have f587 : Exa Z T578.heap os_558 "java/lang/String" := (Exa.keep f576 K578)
      have f588 : Fld Z T578.heap os_558 "java/lang/String" "coder" "B" (.int (0 : Int32)) := (Fld.keep (Fld.keep q558_2 K566 nin0) K578 (ninS (Ne.symm ne561) nin0))
      have f589 : Fld Z T578.heap os_558 "java/lang/String" "value" "[B" (.ref ob_558) := (Fld.keep (Fld.keep q558_3 K566 nin0) K578 (ninS (Ne.symm ne561) nin0))
      have f590 : Arv Z T578.heap ob_558 kb_558 .byte n_558 vs_558 (.int (0 : Int32)) := (Arv.keep f581 K578 (ninS (Ne.symm ne563) nin0))
      have f591 : Exa Z T578.heap os_566 "java/lang/String" := (Exa.keep q566_1 K578)
      have f592 : Fld Z T578.heap os_566 "java/lang/String" "coder" "B" (.int (0 : Int32)) := (Fld.keep q566_2 K578 (ninS (Ne.symm ne569) nin0))
      have f593 : Fld Z T578.heap os_566 "java/lang/String" "value" "[B" (.ref ob_566) := (Fld.keep q566_3 K578 (ninS (Ne.symm ne569) nin0))
      have f594 : Arv Z T578.heap ob_566 kb_566 .byte n_566 vs_566 (.int (0 : Int32)) := (Arv.keep q566_4 K578 (ninS (Ne.symm ne573) nin0))
      have f595 : Sta Z T578.heap "java/lang/String" "COMPACT_STRINGS" "Z" (.int g1) := (own_stakeep (own_stakeep0 f567 K566) K578 f574)
      obtain ⟨cq586, kq586, q586a, q586b, q586c⟩ := isOf hZ rfl q578_0
      obtain ⟨_, _, ⟨T586, L586, k586, n586⟩, -, X586, ⟨Lc586, hQ586, l586, y586, z586⟩, st586⟩ := X578.virtualBack hx (y := (⟨"com/example/forcon/forcon/model/Permission", "toString", "()Ljava/lang/String;"⟩ : MethodName)) (z := (⟨"com/example/forcon/forcon/model/Permission", "toString", "()Ljava/lang/String;"⟩ : MethodName)) hown (mvT hZ (hw _ (List.mem_of_getElem? (i := 75) rfl))) (mvT hZ (hw _ (List.mem_of_getElem? (i := 76) rfl))) (notFace_of_selects (args := #[]) (mvT hZ (hw _ (List.mem_of_getElem? (i := 78) rfl)))) (mvT hZ (hw _ (List.mem_of_getElem? (i := 78) rfl))) (mvT hZ (hw _ (List.mem_of_getElem? (i := 77) rfl))) (by decide) (backOf (W := 0) (rm_pts l Z aT hw [] b554 x0 x1 os_558 os_566 ob_558 kb_558 n_558 vs_558 ob_566 kb_566 n_566 vs_566 g1 T578.heap n0 Z578 q578_1 q578_2 f587 f588 f589 f590 f591 f592 f593 f594 f595 hg1 q558_5 q566_5) hZ (hw _ (List.mem_of_getElem? (i := 79) rfl)) (hw _ (List.mem_of_getElem? (i := 2) rfl)) (by decide) (by decide)) q586a q586c (g := (mkF m 56 #[.val (.int x0), .val (.int x1), .val (.int x2), .val (.int x3), .val (.int x4), .val (.ref b554), .val (.int (x4 &&& (3 : Int32))), .unset, .unset, .unset, .unset, .unset, .unset] [(.ref b554)])) rfl (by rw [hml]; rfl) (Steps.refl _) (argsL := []) (rest := []) (lenOf pd27 rfl) rfl (by show 2 * 0 + _ ≤ _; exact Nat.le_of_eq rfl) (hb hby at_56) (fun _ _ => ⟨rfl, rfl, (by decide : 17 + 4 ≤ _), (by decide : 94 + 31 ≤ _)⟩)
      dsimp only [Pt.U, Pt.locs, Pt.cells, Pt.slots] at X586 l586 y586 z586 st586 hQ586
      subst l586 y586 z586
      obtain ⟨oz_586, rfl, N586q, K586, q586_0, q586_1⟩ := hQ586
      have N586 := Fr.app N578 N586q
      have Z586 : n0 ≤ T586.heap.size := Nat.le_trans Z578 K586.1
      have hkk := Nat.le_trans hkk K586.1
      have CR586 := CHr.trans CR578 (CHr.keep K586 all0 CR578.1)
      have sf596 := Safe.keep K586 all0 CR578.1 sf582
      have ne597 : b554 ≠ oz_586 := Nat.ne_of_lt (Nat.lt_of_lt_of_le (q578_0).lt q586_0)
      have ne598 : os_558 ≠ oz_586 := Nat.ne_of_lt (Nat.lt_of_lt_of_le (f587).lt q586_0)
      have ne599 : ob_558 ≠ oz_586 := Nat.ne_of_lt (Nat.lt_of_lt_of_le (f590).lt q586_0)
      have ne600 : os_566 ≠ oz_586 := Nat.ne_of_lt (Nat.lt_of_lt_of_le (f591).lt q586_0)
      have ne601 : ob_566 ≠ oz_586 := Nat.ne_of_lt (Nat.lt_of_lt_of_le (f594).lt q586_0)
      have ge602 : n0 ≤ oz_586 := Nat.le_trans Z578 q586_0
      refine own_tr st586 ?_
      show own_Got p e below _ T586 (mkF m 59 #[.val (.int x0), .val (.int x1), .val (.int x2), .val (.int x3), .val (.int x4), .val (.ref b554), .val (.int (x4 &&& (3 : Int32))), .unset, .unset, .unset, .unset, .unset, .unset] [(.ref oz_586)])
      refine g_astore X586 hx hby #[.val (.int x0), .val (.int x1), .val (.int x2), .val (.int x3), .val (.int x4), .val (.ref b554), .val (.int (x4 &&& (3 : Int32))), .val (.ref oz_586), .unset, .unset, .unset, .unset, .unset] at_59 rfl rfl (rfl : 59 + 2 = 61) ?_
      refine g_aload X586 hx hby at_61 rfl rfl (rfl : 61 + 2 = 63) ?_
      refine g_aload X586 hx hby at_63 rfl rfl (rfl : 63 + 2 = 65) ?_
      have f604 : Exa Z T586.heap b554 "com/example/forcon/forcon/model/Permission" := (Exa.keep q578_0 K586)
      obtain ⟨cq603, kq603, q603a, q603b, q603c⟩ := isOf hZ rfl f604
      obtain ⟨_, _, ⟨T603, L603, k603, n603⟩, -, X603, ⟨Lc603, hQ603, l603, y603, z603⟩, st603⟩ := X586.virtualBack hx (y := (⟨"com/example/forcon/forcon/model/Permission", "equals", "(Ljava/lang/Object;)Z"⟩ : MethodName)) (z := (⟨"com/example/forcon/forcon/model/Permission", "equals", "(Ljava/lang/Object;)Z"⟩ : MethodName)) hown (mvT hZ (hw _ (List.mem_of_getElem? (i := 47) rfl))) (mvT hZ (hw _ (List.mem_of_getElem? (i := 48) rfl))) (notFace_of_selects (args := #[]) (mvT hZ (hw _ (List.mem_of_getElem? (i := 50) rfl)))) (mvT hZ (hw _ (List.mem_of_getElem? (i := 50) rfl))) (mvT hZ (hw _ (List.mem_of_getElem? (i := 49) rfl))) (by decide) (backOf (W := 0) (rm_peS l Z aT hw [] b554 oz_586 T586.heap n0 Z586 q586_1) hZ (hw _ (List.mem_of_getElem? (i := 51) rfl)) (hw _ (List.mem_of_getElem? (i := 2) rfl)) (by decide) (by decide)) q603a q603c (g := (mkF m 65 #[.val (.int x0), .val (.int x1), .val (.int x2), .val (.int x3), .val (.int x4), .val (.ref b554), .val (.int (x4 &&& (3 : Int32))), .val (.ref oz_586), .unset, .unset, .unset, .unset, .unset] [(.ref oz_586), (.ref b554)])) rfl (by rw [hml]; rfl) (Steps.refl _) (argsL := [(.ref oz_586)]) (rest := []) (lenOf pd7 rfl) rfl (by show 2 * 0 + _ ≤ _; exact Nat.le_of_eq rfl) (hb hby at_65) (fun _ _ => ⟨rfl, rfl, (by decide : 21 + 0 ≤ _), (by decide : 125 + 0 ≤ _)⟩)
      dsimp only [Pt.U, Pt.locs, Pt.cells, Pt.slots] at X603 l603 y603 z603 st603 hQ603
      subst l603 y603 z603
      obtain ⟨rfl, N603q, eq603⟩ := hQ603
      have N603 := Fr.app N586 N603q
      refine own_tr st603 ?_
      show own_Got p e below _ T603 (mkF m 68 #[.val (.int x0), .val (.int x1), .val (.int x2), .val (.int x3), .val (.int x4), .val (.ref b554), .val (.int (x4 &&& (3 : Int32))), .val (.ref oz_586), .unset, .unset, .unset, .unset, .unset] [(.int (0 : Int32))])
      refine g_ifF X603 hx hby at_68 ((if0 _ _).trans (teq (by decide : (0 : Int32) = (0 : Int32))).2) (rfl : 68 + 3 = 71) ?_
      refine g_iconst X603 hx hby (1 : Int32) at_71 (by decide) (rfl : 71 + 1 = 72) ?_
      refine g_goto X603 hx hby at_72 (by decide) (pc' := 76) (by decide) ?_
      subst hPP
      refine own_retNW X603 hx hby hS hkk hZ hEL eq603 CR586 hlk (t := .boolean) hrt (by simp) at_76 (by decide) (by decide) ?_
      show Q_law Z x0 x1 x2 x3 x4 g1 h0 n0 _ T603.heap _
      exact ⟨rfl, N603⟩
    · refine g_icT X578 hx hby at_51 (feq c585).2 (by decide) (pc' := 77) (by decide) ?_
      refine g_iload X578 hx hby at_77 rfl (rfl : 77 + 2 = 79) ?_
      refine g_iconst X578 hx hby (3 : Int32) at_79 (by decide) (rfl : 79 + 1 = 80) ?_
      by_cases c605 : (x4 &&& (3 : Int32)) = (3 : Int32)
      · refine g_icF X578 hx hby at_80 (teq c605).2 (rfl : 80 + 3 = 83) ?_
        refine g_aload X578 hx hby at_83 rfl rfl (rfl : 83 + 2 = 85) ?_
        refine g_astore X578 hx hby #[.val (.int x0), .val (.int x1), .val (.int x2), .val (.int x3), .val (.int x4), .val (.ref b554), .val (.int (x4 &&& (3 : Int32))), .val (.ref b554), .unset, .unset, .unset, .unset, .unset] at_85 rfl rfl (rfl : 85 + 2 = 87) ?_
        refine g_aload X578 hx hby at_87 rfl rfl (rfl : 87 + 2 = 89) ?_
        refine g_aload X578 hx hby at_89 rfl rfl (rfl : 89 + 2 = 91) ?_
        have f607 : Exa Z T578.heap os_558 "java/lang/String" := (Exa.keep f576 K578)
        have f608 : Exa Z T578.heap os_566 "java/lang/String" := (Exa.keep q566_1 K578)
        obtain ⟨cq606, kq606, q606a, q606b, q606c⟩ := isOf hZ rfl q578_0
        obtain ⟨_, _, ⟨T606, L606, k606, n606⟩, -, X606, ⟨Lc606, hQ606, l606, y606, z606⟩, st606⟩ := X578.virtualBack hx (y := (⟨"com/example/forcon/forcon/model/Permission", "equals", "(Ljava/lang/Object;)Z"⟩ : MethodName)) (z := (⟨"com/example/forcon/forcon/model/Permission", "equals", "(Ljava/lang/Object;)Z"⟩ : MethodName)) hown (mvT hZ (hw _ (List.mem_of_getElem? (i := 47) rfl))) (mvT hZ (hw _ (List.mem_of_getElem? (i := 48) rfl))) (notFace_of_selects (args := #[]) (mvT hZ (hw _ (List.mem_of_getElem? (i := 50) rfl)))) (mvT hZ (hw _ (List.mem_of_getElem? (i := 50) rfl))) (mvT hZ (hw _ (List.mem_of_getElem? (i := 49) rfl))) (by decide) (backOf (W := 0) (rm_peI l Z aT hw [] b554 os_558 os_566 T578.heap n0 Z578 q578_0 q578_1 q578_2 f607 f608) hZ (hw _ (List.mem_of_getElem? (i := 51) rfl)) (hw _ (List.mem_of_getElem? (i := 2) rfl)) (by decide) (by decide)) q606a q606c (g := (mkF m 91 #[.val (.int x0), .val (.int x1), .val (.int x2), .val (.int x3), .val (.int x4), .val (.ref b554), .val (.int (x4 &&& (3 : Int32))), .val (.ref b554), .unset, .unset, .unset, .unset, .unset] [(.ref b554), (.ref b554)])) rfl (by rw [hml]; rfl) (Steps.refl _) (argsL := [(.ref b554)]) (rest := []) (lenOf pd7 rfl) rfl (by show 2 * 0 + _ ≤ _; exact Nat.le_of_eq rfl) (hb hby at_91) (fun _ _ => ⟨rfl, rfl, (by decide : 17 + 0 ≤ _), (by decide : 94 + 0 ≤ _)⟩)
        dsimp only [Pt.U, Pt.locs, Pt.cells, Pt.slots] at X606 l606 y606 z606 st606 hQ606
        subst l606 y606 z606
        obtain ⟨rfl, N606q, eq606⟩ := hQ606
        have N606 := Fr.app N578 N606q
        refine own_tr st606 ?_
        show own_Got p e below _ T606 (mkF m 94 #[.val (.int x0), .val (.int x1), .val (.int x2), .val (.int x3), .val (.int x4), .val (.ref b554), .val (.int (x4 &&& (3 : Int32))), .val (.ref b554), .unset, .unset, .unset, .unset, .unset] [(.int (1 : Int32))])
        subst hPP
        refine own_retNW X606 hx hby hS hkk hZ hEL eq606 CR578 hlk (t := .boolean) hrt (by simp) at_94 (by decide) (by decide) ?_
        show Q_law Z x0 x1 x2 x3 x4 g1 h0 n0 _ T606.heap _
        exact ⟨rfl, N606⟩
      · refine g_icT X578 hx hby at_80 (feq c605).2 (by decide) (pc' := 95) (by decide) ?_
        have j609 : own_Got p e below PP T578 (mkF m 107 #[.val (.int x0), .val (.int x1), .val (.int x2), .val (.int x3), .val (.int x4), .val (.ref b554), .val (.int (x4 &&& (3 : Int32))), .unset, .unset, .unset, .unset, .unset, .unset] [(.int (if (x4 &&& (4 : Int32)) = (0 : Int32) then (x0) else (x2)))]) := by
          refine g_istore X578 hx hby #[.val (.int x0), .val (.int x1), .val (.int x2), .val (.int x3), .val (.int x4), .val (.ref b554), .val (.int (x4 &&& (3 : Int32))), .val (.int (if (x4 &&& (4 : Int32)) = (0 : Int32) then (x0) else (x2))), .unset, .unset, .unset, .unset, .unset] at_107 rfl (rfl : 107 + 2 = 109) ?_
          have j610 : own_Got p e below PP T578 (mkF m 122 #[.val (.int x0), .val (.int x1), .val (.int x2), .val (.int x3), .val (.int x4), .val (.ref b554), .val (.int (x4 &&& (3 : Int32))), .val (.int (if (x4 &&& (4 : Int32)) = (0 : Int32) then (x0) else (x2))), .unset, .unset, .unset, .unset, .unset] [(.int (if (x4 &&& (8 : Int32)) = (0 : Int32) then (x1) else (x3)))]) := by
            refine g_istore X578 hx hby #[.val (.int x0), .val (.int x1), .val (.int x2), .val (.int x3), .val (.int x4), .val (.ref b554), .val (.int (x4 &&& (3 : Int32))), .val (.int (if (x4 &&& (4 : Int32)) = (0 : Int32) then (x0) else (x2))), .val (.int (if (x4 &&& (8 : Int32)) = (0 : Int32) then (x1) else (x3))), .unset, .unset, .unset, .unset] at_122 rfl (rfl : 122 + 2 = 124) ?_
            refine g_iload X578 hx hby at_124 rfl (rfl : 124 + 2 = 126) ?_
            refine g_bipush X578 hx hby (16 : Int32) at_126 (by decide) (rfl : 126 + 2 = 128) ?_
            refine g_iand X578 hx hby at_128 (rfl : 128 + 1 = 129) ?_
            by_cases c611 : (x4 &&& (16 : Int32)) = (0 : Int32)
            · refine g_ifT X578 hx hby at_129 ((if0 _ _).trans (teq c611).1) (by decide) (pc' := 138) (by decide) ?_
              have f613 : Exa Z T578.heap os_558 "java/lang/String" := (Exa.keep f576 K578)
              have f614 : Arv Z T578.heap ob_558 kb_558 .byte n_558 vs_558 (.int (0 : Int32)) := (Arv.keep f581 K578 (ninS (Ne.symm ne563) nin0))
              have f615 : Exa Z T578.heap os_566 "java/lang/String" := (Exa.keep q566_1 K578)
              have f616 : Arv Z T578.heap ob_566 kb_566 .byte n_566 vs_566 (.int (0 : Int32)) := (Arv.keep q566_4 K578 (ninS (Ne.symm ne573) nin0))
              obtain ⟨T612, h612, X612, e612, E612, A612, D612, -, st612⟩ := newO X578 hx hZ hown (hw _ (List.mem_of_getElem? (i := 0) rfl)) (hw _ (List.mem_of_getElem? (i := 1) rfl)) (hw _ (List.mem_of_getElem? (i := 2) rfl)) rfl (g := (mkF m 138 #[.val (.int x0), .val (.int x1), .val (.int x2), .val (.int x3), .val (.int x4), .val (.ref b554), .val (.int (x4 &&& (3 : Int32))), .val (.int (if (x4 &&& (4 : Int32)) = (0 : Int32) then (x0) else (x2))), .val (.int (if (x4 &&& (8 : Int32)) = (0 : Int32) then (x1) else (x3))), .unset, .unset, .unset, .unset] [])) rfl (hb hby at_138) (by decide) (by decide)
              obtain ⟨b612, g612⟩ : ∃ z, z = T578.heap.size := ⟨_, rfl⟩
              rw [← g612] at A612 D612 st612
              have ne617 : b554 ≠ b612 := Nat.ne_of_lt (Nat.lt_of_lt_of_le (q578_0).lt (Nat.le_of_eq g612.symm))
              have ne618 : os_558 ≠ b612 := Nat.ne_of_lt (Nat.lt_of_lt_of_le (f613).lt (Nat.le_of_eq g612.symm))
              have ne619 : ob_558 ≠ b612 := Nat.ne_of_lt (Nat.lt_of_lt_of_le (f614).lt (Nat.le_of_eq g612.symm))
              have ne620 : os_566 ≠ b612 := Nat.ne_of_lt (Nat.lt_of_lt_of_le (f615).lt (Nat.le_of_eq g612.symm))
              have ne621 : ob_566 ≠ b612 := Nat.ne_of_lt (Nat.lt_of_lt_of_le (f616).lt (Nat.le_of_eq g612.symm))
              have Z612 : n0 ≤ h612.size := Nat.le_trans Z578 E612.1
              have hkk := Nat.le_trans hkk E612.1
              have CR612 := CHr.trans CR578 (CHr.ext E612 CR578.1)
              have sf622 := Safe.ext E612 CR578.1 sf582
              have sf623 := Safe.ext E612 CR578.1 (Safe.new (Nat.le_of_eq g612.symm))
              have ge612 : n0 ≤ b612 := Nat.le_trans Z578 (Nat.le_of_eq g612.symm)
              have f624 : Fld Z h612 b612 "com/example/forcon/forcon/model/Permission" "operation" "Ljava/lang/String;" .null := D612 (Or.inr (hw _ (List.mem_of_getElem? (i := 40) rfl))) (ty := (.object "java/lang/String")) (by decide)
              have f625 : Fld Z h612 b612 "com/example/forcon/forcon/model/Permission" "object" "Ljava/lang/String;" .null := D612 (Or.inr (hw _ (List.mem_of_getElem? (i := 43) rfl))) (ty := (.object "java/lang/String")) (by decide)
              refine own_go st612 ?_
              show own_Got p e below _ T612 (mkF m 141 #[.val (.int x0), .val (.int x1), .val (.int x2), .val (.int x3), .val (.int x4), .val (.ref b554), .val (.int (x4 &&& (3 : Int32))), .val (.int (if (x4 &&& (4 : Int32)) = (0 : Int32) then (x0) else (x2))), .val (.int (if (x4 &&& (8 : Int32)) = (0 : Int32) then (x1) else (x3))), .unset, .unset, .unset, .unset] [(.ref b612)])
              refine g_dup X612 hx hby at_141 rfl (rfl : 141 + 1 = 142) ?_
              refine g_iload X612 hx hby at_142 rfl (rfl : 142 + 2 = 144) ?_
              have f627 : Sta Z h612 "java/lang/String" "COMPACT_STRINGS" "Z" (.int g1) := (Sta.ext E612 (own_stakeep (own_stakeep0 f567 K566) K578 f574))
              have f628 : Exa Z h612 b554 "com/example/forcon/forcon/model/Permission" := (Exa.ext E612 q578_0)
              have f629 : Exa Z h612 os_558 "java/lang/String" := (Exa.ext E612 f613)
              have f630 : Arv Z h612 ob_558 kb_558 .byte n_558 vs_558 (.int (0 : Int32)) := (f614.ext E612)
              have f631 : Exa Z h612 os_566 "java/lang/String" := (Exa.ext E612 f615)
              have f632 : Arv Z h612 ob_566 kb_566 .byte n_566 vs_566 (.int (0 : Int32)) := (f616.ext E612)
              obtain ⟨_, _, ⟨T626, L626, k626, n626⟩, -, X626, S2626, gr626, ⟨Lc626, hQ626, l626, y626, z626, C626⟩, st626⟩ := Jvm.RoadKit.callSS X612 hx (y := (⟨"com/example/forcon/forcon/model/PermissionEqualsPinLaw", "str", "(I)Ljava/lang/String;"⟩ : MethodName)) hown (mvT hZ (hw _ (List.mem_of_getElem? (i := 3) rfl))) (mvT hZ (hw _ (List.mem_of_getElem? (i := 4) rfl))) (mvT hZ (hw _ (List.mem_of_getElem? (i := 5) rfl))) (mvT hZ (hw _ (List.mem_of_getElem? (i := 6) rfl))) (by decide) (backOfSH (W := 2) (rm_str l Z aT hw [] (if (x4 &&& (4 : Int32)) = (0 : Int32) then (x0) else (x2)) g1 h612 n0 Z612 f627 hg1) hZ (hw _ (List.mem_of_getElem? (i := 6) rfl)) (hw _ (List.mem_of_getElem? (i := 5) rfl)) (by decide) (by decide) hEL CR612.1) (g := (mkF m 144 #[.val (.int x0), .val (.int x1), .val (.int x2), .val (.int x3), .val (.int x4), .val (.ref b554), .val (.int (x4 &&& (3 : Int32))), .val (.int (if (x4 &&& (4 : Int32)) = (0 : Int32) then (x0) else (x2))), .val (.int (if (x4 &&& (8 : Int32)) = (0 : Int32) then (x1) else (x3))), .unset, .unset, .unset, .unset] [(.int (if (x4 &&& (4 : Int32)) = (0 : Int32) then (x0) else (x2))), (.ref b612), (.ref b612)])) rfl (by rw [hml]; rfl) (argsL := [(.int (if (x4 &&& (4 : Int32)) = (0 : Int32) then (x0) else (x2)))]) (rest := [(.ref b612), (.ref b612)]) (lenOf pd28 rfl) rfl (by show 2 * 0 + _ ≤ _; exact Nat.le_of_eq rfl) (hb hby at_144) (fun _ _ => ⟨rfl, e612, (by decide : 18 + 6 ≤ _), (by decide : 96 + 12 ≤ _)⟩)
              dsimp only [Pt.U, Pt.locs, Pt.cells, Pt.slots] at X626 l626 y626 z626 st626 hQ626 C626 S2626 gr626
              subst l626 y626 z626
              obtain ⟨X626, hS, hZ, hown⟩ := rebS hS (Nat.le_trans hkk (Nat.le_of_eq (congrArg Array.size e612.symm))) X626 S2626 gr626 hZ hown
              obtain ⟨os_626, ob_626, kb_626, n_626, vs_626, rfl, N626q, K626, q626_0, q626_1, q626_2, q626_3, q626_4, q626_5⟩ := hQ626
              have N626 := Fr.app N578 N626q
              have Z626 : n0 ≤ T626.heap.size := Nat.le_trans Z612 K626.1
              have hkk := Nat.le_trans hkk (Nat.le_refl _)
              have CR626 := CHr.trans CR612 (C626)
              have sf633 := CHr.safe C626 f628.lt sf622
              have sf634 := CHr.safe C626 A612.lt sf623
              have hkk := Nat.le_refl (T626.heap.size)
              have ne635 : b554 ≠ os_626 := Nat.ne_of_lt (Nat.lt_of_lt_of_le (f628).lt q626_0)
              have ne636 : os_558 ≠ os_626 := Nat.ne_of_lt (Nat.lt_of_lt_of_le (f629).lt q626_0)
              have ne637 : ob_558 ≠ os_626 := Nat.ne_of_lt (Nat.lt_of_lt_of_le (f630).lt q626_0)
              have ne638 : os_566 ≠ os_626 := Nat.ne_of_lt (Nat.lt_of_lt_of_le (f631).lt q626_0)
              have ne639 : ob_566 ≠ os_626 := Nat.ne_of_lt (Nat.lt_of_lt_of_le (f632).lt q626_0)
              have ne640 : b612 ≠ os_626 := Nat.ne_of_lt (Nat.lt_of_lt_of_le (A612).lt q626_0)
              have ge641 : n0 ≤ os_626 := Nat.le_trans Z612 q626_0
              have f643 : Exa Z T626.heap b554 "com/example/forcon/forcon/model/Permission" := (Exa.keep f628 K626)
              have ne642 : b554 ≠ ob_626 := Exa.neArv f643 q626_4 (hw _ (List.mem_of_getElem? (i := 1) rfl))
              have f645 : Exa Z T626.heap os_558 "java/lang/String" := (Exa.keep f629 K626)
              have ne644 : os_558 ≠ ob_626 := Exa.neArv f645 q626_4 (hw _ (List.mem_of_getElem? (i := 8) rfl))
              have f647 : Exa Z T626.heap os_566 "java/lang/String" := (Exa.keep f631 K626)
              have ne646 : os_566 ≠ ob_626 := Exa.neArv f647 q626_4 (hw _ (List.mem_of_getElem? (i := 8) rfl))
              have f649 : Exa Z T626.heap b612 "com/example/forcon/forcon/model/Permission" := (Exa.keep A612 K626)
              have ne648 : b612 ≠ ob_626 := Exa.neArv f649 q626_4 (hw _ (List.mem_of_getElem? (i := 1) rfl))
              have ne650 : os_626 ≠ ob_626 := Exa.neArv q626_1 q626_4 (hw _ (List.mem_of_getElem? (i := 8) rfl))
              refine own_tr st626 ?_
              show own_Got p e below _ T626 (mkF m 147 #[.val (.int x0), .val (.int x1), .val (.int x2), .val (.int x3), .val (.int x4), .val (.ref b554), .val (.int (x4 &&& (3 : Int32))), .val (.int (if (x4 &&& (4 : Int32)) = (0 : Int32) then (x0) else (x2))), .val (.int (if (x4 &&& (8 : Int32)) = (0 : Int32) then (x1) else (x3))), .unset, .unset, .unset, .unset] [(.ref os_626), (.ref b612), (.ref b612)])
              refine g_iload X626 hx hby at_147 rfl (rfl : 147 + 2 = 149) ?_
              have f652 : Sta Z T626.heap "java/lang/String" "COMPACT_STRINGS" "Z" (.int g1) := (own_stakeep0 f627 K626)
              have f653 : Arv Z T626.heap ob_558 kb_558 .byte n_558 vs_558 (.int (0 : Int32)) := (Arv.keep f630 K626 nin0)
              have f654 : Arv Z T626.heap ob_566 kb_566 .byte n_566 vs_566 (.int (0 : Int32)) := (Arv.keep f632 K626 nin0)
              obtain ⟨_, _, ⟨T651, L651, k651, n651⟩, -, X651, S2651, gr651, ⟨Lc651, hQ651, l651, y651, z651, C651⟩, st651⟩ := Jvm.RoadKit.callSS X626 hx (y := (⟨"com/example/forcon/forcon/model/PermissionEqualsPinLaw", "str", "(I)Ljava/lang/String;"⟩ : MethodName)) hown (mvT hZ (hw _ (List.mem_of_getElem? (i := 3) rfl))) (mvT hZ (hw _ (List.mem_of_getElem? (i := 4) rfl))) (mvT hZ (hw _ (List.mem_of_getElem? (i := 5) rfl))) (mvT hZ (hw _ (List.mem_of_getElem? (i := 6) rfl))) (by decide) (backOfSH (W := 3) (rm_str l Z aT hw [] (if (x4 &&& (8 : Int32)) = (0 : Int32) then (x1) else (x3)) g1 T626.heap n0 Z626 f652 hg1) hZ (hw _ (List.mem_of_getElem? (i := 6) rfl)) (hw _ (List.mem_of_getElem? (i := 5) rfl)) (by decide) (by decide) hEL CR626.1) (g := (mkF m 149 #[.val (.int x0), .val (.int x1), .val (.int x2), .val (.int x3), .val (.int x4), .val (.ref b554), .val (.int (x4 &&& (3 : Int32))), .val (.int (if (x4 &&& (4 : Int32)) = (0 : Int32) then (x0) else (x2))), .val (.int (if (x4 &&& (8 : Int32)) = (0 : Int32) then (x1) else (x3))), .unset, .unset, .unset, .unset] [(.int (if (x4 &&& (8 : Int32)) = (0 : Int32) then (x1) else (x3))), (.ref os_626), (.ref b612), (.ref b612)])) rfl (by rw [hml]; rfl) (argsL := [(.int (if (x4 &&& (8 : Int32)) = (0 : Int32) then (x1) else (x3)))]) (rest := [(.ref os_626), (.ref b612), (.ref b612)]) (lenOf pd28 rfl) rfl (by show 2 * 0 + _ ≤ _; exact Nat.le_of_eq rfl) (hb hby at_149) (fun _ _ => ⟨rfl, rfl, (by decide : 24 + 6 ≤ _), (by decide : 108 + 12 ≤ _)⟩)
              dsimp only [Pt.U, Pt.locs, Pt.cells, Pt.slots] at X651 l651 y651 z651 st651 hQ651 C651 S2651 gr651
              subst l651 y651 z651
              obtain ⟨X651, hS, hZ, hown⟩ := rebS hS (Nat.le_trans hkk (Nat.le_of_eq (congrArg Array.size rfl.symm))) X651 S2651 gr651 hZ hown
              obtain ⟨os_651, ob_651, kb_651, n_651, vs_651, rfl, N651q, K651, q651_0, q651_1, q651_2, q651_3, q651_4, q651_5⟩ := hQ651
              have N651 := Fr.app N626 N651q
              have Z651 : n0 ≤ T651.heap.size := Nat.le_trans Z626 K651.1
              have hkk := Nat.le_trans hkk (Nat.le_refl _)
              have CR651 := CHr.trans CR626 (C651)
              have sf655 := CHr.safe C651 f643.lt sf633
              have sf656 := CHr.safe C651 f649.lt sf634
              have hkk := Nat.le_refl (T651.heap.size)
              have ne657 : b554 ≠ os_651 := Nat.ne_of_lt (Nat.lt_of_lt_of_le (f643).lt q651_0)
              have ne658 : os_558 ≠ os_651 := Nat.ne_of_lt (Nat.lt_of_lt_of_le (f645).lt q651_0)
              have ne659 : ob_558 ≠ os_651 := Nat.ne_of_lt (Nat.lt_of_lt_of_le (f653).lt q651_0)
              have ne660 : os_566 ≠ os_651 := Nat.ne_of_lt (Nat.lt_of_lt_of_le (f647).lt q651_0)
              have ne661 : ob_566 ≠ os_651 := Nat.ne_of_lt (Nat.lt_of_lt_of_le (f654).lt q651_0)
              have ne662 : b612 ≠ os_651 := Nat.ne_of_lt (Nat.lt_of_lt_of_le (f649).lt q651_0)
              have ne663 : os_626 ≠ os_651 := Nat.ne_of_lt (Nat.lt_of_lt_of_le (q626_1).lt q651_0)
              have ne664 : ob_626 ≠ os_651 := Nat.ne_of_lt (Nat.lt_of_lt_of_le (q626_4).lt q651_0)
              have ge665 : n0 ≤ os_651 := Nat.le_trans Z626 q651_0
              have f667 : Exa Z T651.heap b554 "com/example/forcon/forcon/model/Permission" := (Exa.keep f643 K651)
              have ne666 : b554 ≠ ob_651 := Exa.neArv f667 q651_4 (hw _ (List.mem_of_getElem? (i := 1) rfl))
              have f669 : Exa Z T651.heap os_558 "java/lang/String" := (Exa.keep f645 K651)
              have ne668 : os_558 ≠ ob_651 := Exa.neArv f669 q651_4 (hw _ (List.mem_of_getElem? (i := 8) rfl))
              have f671 : Exa Z T651.heap os_566 "java/lang/String" := (Exa.keep f647 K651)
              have ne670 : os_566 ≠ ob_651 := Exa.neArv f671 q651_4 (hw _ (List.mem_of_getElem? (i := 8) rfl))
              have f673 : Exa Z T651.heap b612 "com/example/forcon/forcon/model/Permission" := (Exa.keep f649 K651)
              have ne672 : b612 ≠ ob_651 := Exa.neArv f673 q651_4 (hw _ (List.mem_of_getElem? (i := 1) rfl))
              have f675 : Exa Z T651.heap os_626 "java/lang/String" := (Exa.keep q626_1 K651)
              have ne674 : os_626 ≠ ob_651 := Exa.neArv f675 q651_4 (hw _ (List.mem_of_getElem? (i := 8) rfl))
              have ne676 : os_651 ≠ ob_651 := Exa.neArv q651_1 q651_4 (hw _ (List.mem_of_getElem? (i := 8) rfl))
              refine own_tr st651 ?_
              show own_Got p e below _ T651 (mkF m 152 #[.val (.int x0), .val (.int x1), .val (.int x2), .val (.int x3), .val (.int x4), .val (.ref b554), .val (.int (x4 &&& (3 : Int32))), .val (.int (if (x4 &&& (4 : Int32)) = (0 : Int32) then (x0) else (x2))), .val (.int (if (x4 &&& (8 : Int32)) = (0 : Int32) then (x1) else (x3))), .unset, .unset, .unset, .unset] [(.ref os_651), (.ref os_626), (.ref b612), (.ref b612)])
              have f678 : Fld Z T651.heap b612 "com/example/forcon/forcon/model/Permission" "operation" "Ljava/lang/String;" .null := (Fld.keep (Fld.keep f624 K626 nin0) K651 nin0)
              have f679 : Fld Z T651.heap b612 "com/example/forcon/forcon/model/Permission" "object" "Ljava/lang/String;" .null := (Fld.keep (Fld.keep f625 K626 nin0) K651 nin0)
              have f680 : Arv Z T651.heap ob_558 kb_558 .byte n_558 vs_558 (.int (0 : Int32)) := (Arv.keep f653 K651 nin0)
              have f681 : Arv Z T651.heap ob_566 kb_566 .byte n_566 vs_566 (.int (0 : Int32)) := (Arv.keep f654 K651 nin0)
              have f682 : Arv Z T651.heap ob_626 kb_626 .byte n_626 vs_626 (.int (0 : Int32)) := (Arv.keep q626_4 K651 nin0)
              obtain ⟨_, _, ⟨T677, L677, k677, n677⟩, -, X677, S2677, gr677, ⟨Lc677, hQ677, l677, y677, z677, C677⟩, st677⟩ := X651.specialBackS hx (y := (⟨"com/example/forcon/forcon/model/Permission", "<init>", "(Ljava/lang/String;Ljava/lang/String;)V"⟩ : MethodName)) rfl hown (mvT hZ (hw _ (List.mem_of_getElem? (i := 29) rfl))) (mvT hZ (hw _ (List.mem_of_getElem? (i := 30) rfl))) (mvT hZ (hw _ (List.mem_of_getElem? (i := 31) rfl))) (by decide) (backOfSH (W := 1) (rm_pin l Z aT hw [] b612 os_626 os_651 T651.heap n0 Z651 f673 f678 f679 ge612 f675 q651_1) hZ (hw _ (List.mem_of_getElem? (i := 31) rfl)) (hw _ (List.mem_of_getElem? (i := 2) rfl)) (by decide) (by decide) hEL CR651.1) (g := (mkF m 152 #[.val (.int x0), .val (.int x1), .val (.int x2), .val (.int x3), .val (.int x4), .val (.ref b554), .val (.int (x4 &&& (3 : Int32))), .val (.int (if (x4 &&& (4 : Int32)) = (0 : Int32) then (x0) else (x2))), .val (.int (if (x4 &&& (8 : Int32)) = (0 : Int32) then (x1) else (x3))), .unset, .unset, .unset, .unset] [(.ref os_651), (.ref os_626), (.ref b612), (.ref b612)])) rfl (by rw [hml]; rfl) (Steps.refl _) (a := b612) (argsL := [(.ref os_626), (.ref os_651)]) (rest := [(.ref b612)]) (lenOf pd29 rfl) rfl (by show 2 * 0 + _ ≤ _; exact Nat.le_of_eq rfl) (hb hby at_152) (fun _ _ => ⟨rfl, rfl, (by decide : 30 + 4 ≤ _), (by decide : 120 + 68 ≤ _)⟩)
              dsimp only [Pt.U, Pt.locs, Pt.cells, Pt.slots] at X677 l677 y677 z677 st677 hQ677 C677 S2677 gr677
              subst l677 y677 z677
              obtain ⟨X677, hS, hZ, hown⟩ := rebS hS (Nat.le_trans hkk (Nat.le_of_eq (congrArg Array.size rfl.symm))) X677 S2677 gr677 hZ hown
              obtain ⟨rfl, N677q, K677, q677_0, q677_1, q677_2⟩ := hQ677
              have N677 := Fr.app N651 N677q
              have Z677 : n0 ≤ T677.heap.size := Nat.le_trans Z651 K677.1
              have hkk := Nat.le_trans hkk (Nat.le_refl _)
              have CR677 := CHr.trans CR651 (C677)
              have sf683 := CHr.safe C677 f667.lt sf655
              have sf684 := CHr.safe C677 f673.lt sf656
              have hkk := Nat.le_refl (T677.heap.size)
              refine own_tr st677 ?_
              show own_Got p e below _ T677 (mkF m 155 #[.val (.int x0), .val (.int x1), .val (.int x2), .val (.int x3), .val (.int x4), .val (.ref b554), .val (.int (x4 &&& (3 : Int32))), .val (.int (if (x4 &&& (4 : Int32)) = (0 : Int32) then (x0) else (x2))), .val (.int (if (x4 &&& (8 : Int32)) = (0 : Int32) then (x1) else (x3))), .unset, .unset, .unset, .unset] [(.ref b612)])
              refine g_astore X677 hx hby #[.val (.int x0), .val (.int x1), .val (.int x2), .val (.int x3), .val (.int x4), .val (.ref b554), .val (.int (x4 &&& (3 : Int32))), .val (.int (if (x4 &&& (4 : Int32)) = (0 : Int32) then (x0) else (x2))), .val (.int (if (x4 &&& (8 : Int32)) = (0 : Int32) then (x1) else (x3))), .val (.ref b612), .unset, .unset, .unset] at_155 rfl rfl (rfl : 155 + 2 = 157) ?_
              refine g_iloadN X677 hx hby at_157 rfl (rfl : 157 + 1 = 158) ?_
              refine g_iload X677 hx hby at_158 rfl (rfl : 158 + 2 = 160) ?_
              obtain ⟨_, _, ⟨T685, L685, k685, n685⟩, -, X685, ⟨Lc685, hQ685, l685, y685, z685⟩, st685⟩ := Jvm.LawKit.callS X677 hx (y := (⟨"com/example/forcon/forcon/model/PermissionEqualsPinLaw", "same", "(II)Z"⟩ : MethodName)) hown (mvT hZ (hw _ (List.mem_of_getElem? (i := 44) rfl))) (mvT hZ (hw _ (List.mem_of_getElem? (i := 45) rfl))) (mvT hZ (hw _ (List.mem_of_getElem? (i := 5) rfl))) (mvT hZ (hw _ (List.mem_of_getElem? (i := 46) rfl))) (by decide) (backOf (W := 0) (rm_sam l Z aT hw [] x0 (if (x4 &&& (4 : Int32)) = (0 : Int32) then (x0) else (x2)) T677.heap n0 Z677) hZ (hw _ (List.mem_of_getElem? (i := 46) rfl)) (hw _ (List.mem_of_getElem? (i := 5) rfl)) (by decide) (by decide)) (g := (mkF m 160 #[.val (.int x0), .val (.int x1), .val (.int x2), .val (.int x3), .val (.int x4), .val (.ref b554), .val (.int (x4 &&& (3 : Int32))), .val (.int (if (x4 &&& (4 : Int32)) = (0 : Int32) then (x0) else (x2))), .val (.int (if (x4 &&& (8 : Int32)) = (0 : Int32) then (x1) else (x3))), .val (.ref b612), .unset, .unset, .unset] [(.int (if (x4 &&& (4 : Int32)) = (0 : Int32) then (x0) else (x2))), (.int x0)])) rfl (by rw [hml]; rfl) (argsL := [(.int x0), (.int (if (x4 &&& (4 : Int32)) = (0 : Int32) then (x0) else (x2)))]) (rest := []) (lenOf pd30 rfl) rfl (by show 2 * 0 + _ ≤ _; exact Nat.le_of_eq rfl) (hb hby at_160) (fun _ _ => ⟨rfl, rfl, (by decide : 34 + 0 ≤ _), (by decide : 188 + 0 ≤ _)⟩)
              dsimp only [Pt.U, Pt.locs, Pt.cells, Pt.slots] at X685 l685 y685 z685 st685 hQ685
              subst l685 y685 z685
              obtain ⟨rfl, N685q, eq685⟩ := hQ685
              have N685 := Fr.app N677 N685q
              refine own_go st685 ?_
              show own_Got p e below _ T685 (mkF m 163 #[.val (.int x0), .val (.int x1), .val (.int x2), .val (.int x3), .val (.int x4), .val (.ref b554), .val (.int (x4 &&& (3 : Int32))), .val (.int (if (x4 &&& (4 : Int32)) = (0 : Int32) then (x0) else (x2))), .val (.int (if (x4 &&& (8 : Int32)) = (0 : Int32) then (x1) else (x3))), .val (.ref b612), .unset, .unset, .unset] [(.int (F_sam x0 (if (x4 &&& (4 : Int32)) = (0 : Int32) then (x0) else (x2))))])
              by_cases c686 : (F_sam x0 (if (x4 &&& (4 : Int32)) = (0 : Int32) then (x0) else (x2))) = (0 : Int32)
              · refine g_ifT X685 hx hby at_163 ((if0 _ _).trans (teq c686).1) (by decide) (pc' := 179) (by decide) ?_
                refine g_iconst X685 hx hby (0 : Int32) at_179 (by decide) (rfl : 179 + 1 = 180) ?_
                refine g_istore X685 hx hby #[.val (.int x0), .val (.int x1), .val (.int x2), .val (.int x3), .val (.int x4), .val (.ref b554), .val (.int (x4 &&& (3 : Int32))), .val (.int (if (x4 &&& (4 : Int32)) = (0 : Int32) then (x0) else (x2))), .val (.int (if (x4 &&& (8 : Int32)) = (0 : Int32) then (x1) else (x3))), .val (.ref b612), .val (.int (0 : Int32)), .unset, .unset] at_180 rfl (rfl : 180 + 2 = 182) ?_
                refine g_aload X685 hx hby at_182 rfl rfl (rfl : 182 + 2 = 184) ?_
                refine g_astore X685 hx hby #[.val (.int x0), .val (.int x1), .val (.int x2), .val (.int x3), .val (.int x4), .val (.ref b554), .val (.int (x4 &&& (3 : Int32))), .val (.int (if (x4 &&& (4 : Int32)) = (0 : Int32) then (x0) else (x2))), .val (.int (if (x4 &&& (8 : Int32)) = (0 : Int32) then (x1) else (x3))), .val (.ref b612), .val (.int (0 : Int32)), .val (.ref b612), .unset] at_184 rfl rfl (rfl : 184 + 2 = 186) ?_
                refine g_aload X685 hx hby at_186 rfl rfl (rfl : 186 + 2 = 188) ?_
                refine g_astore X685 hx hby #[.val (.int x0), .val (.int x1), .val (.int x2), .val (.int x3), .val (.int x4), .val (.ref b554), .val (.int (x4 &&& (3 : Int32))), .val (.int (if (x4 &&& (4 : Int32)) = (0 : Int32) then (x0) else (x2))), .val (.int (if (x4 &&& (8 : Int32)) = (0 : Int32) then (x1) else (x3))), .val (.ref b612), .val (.int (0 : Int32)), .val (.ref b612), .val (.ref b554)] at_188 rfl rfl (rfl : 188 + 2 = 190) ?_
                refine g_aload X685 hx hby at_190 rfl rfl (rfl : 190 + 2 = 192) ?_
                refine g_aload X685 hx hby at_192 rfl rfl (rfl : 192 + 2 = 194) ?_
                have f688 : Fld Z T677.heap b554 "com/example/forcon/forcon/model/Permission" "operation" "Ljava/lang/String;" (.ref os_558) := (Fld.keep (Fld.keep (Fld.keep (Fld.ext E612 q578_1) K626 nin0) K651 nin0) K677 (ninS ne617 nin0))
                have f689 : Fld Z T677.heap b554 "com/example/forcon/forcon/model/Permission" "object" "Ljava/lang/String;" (.ref os_566) := (Fld.keep (Fld.keep (Fld.keep (Fld.ext E612 q578_2) K626 nin0) K651 nin0) K677 (ninS ne617 nin0))
                have f690 : Exa Z T677.heap os_558 "java/lang/String" := (Exa.keep f669 K677)
                have f691 : Fld Z T677.heap os_558 "java/lang/String" "coder" "B" (.int (0 : Int32)) := (Fld.keep (Fld.keep (Fld.keep (Fld.ext E612 (Fld.keep (Fld.keep q558_2 K566 nin0) K578 (ninS (Ne.symm ne561) nin0))) K626 nin0) K651 nin0) K677 (ninS ne618 nin0))
                have f692 : Fld Z T677.heap os_558 "java/lang/String" "value" "[B" (.ref ob_558) := (Fld.keep (Fld.keep (Fld.keep (Fld.ext E612 (Fld.keep (Fld.keep q558_3 K566 nin0) K578 (ninS (Ne.symm ne561) nin0))) K626 nin0) K651 nin0) K677 (ninS ne618 nin0))
                have f693 : Arv Z T677.heap ob_558 kb_558 .byte n_558 vs_558 (.int (0 : Int32)) := (Arv.keep f680 K677 (ninS ne619 nin0))
                have f694 : Exa Z T677.heap os_566 "java/lang/String" := (Exa.keep f671 K677)
                have f695 : Fld Z T677.heap os_566 "java/lang/String" "coder" "B" (.int (0 : Int32)) := (Fld.keep (Fld.keep (Fld.keep (Fld.ext E612 (Fld.keep q566_2 K578 (ninS (Ne.symm ne569) nin0))) K626 nin0) K651 nin0) K677 (ninS ne620 nin0))
                have f696 : Fld Z T677.heap os_566 "java/lang/String" "value" "[B" (.ref ob_566) := (Fld.keep (Fld.keep (Fld.keep (Fld.ext E612 (Fld.keep q566_3 K578 (ninS (Ne.symm ne569) nin0))) K626 nin0) K651 nin0) K677 (ninS ne620 nin0))
                have f697 : Arv Z T677.heap ob_566 kb_566 .byte n_566 vs_566 (.int (0 : Int32)) := (Arv.keep f681 K677 (ninS ne621 nin0))
                have f698 : Exa Z T677.heap os_626 "java/lang/String" := (Exa.keep f675 K677)
                have f699 : Fld Z T677.heap os_626 "java/lang/String" "coder" "B" (.int (0 : Int32)) := (Fld.keep (Fld.keep q626_2 K651 nin0) K677 (ninS (Ne.symm ne640) nin0))
                have f700 : Fld Z T677.heap os_626 "java/lang/String" "value" "[B" (.ref ob_626) := (Fld.keep (Fld.keep q626_3 K651 nin0) K677 (ninS (Ne.symm ne640) nin0))
                have f701 : Arv Z T677.heap ob_626 kb_626 .byte n_626 vs_626 (.int (0 : Int32)) := (Arv.keep f682 K677 (ninS (Ne.symm ne648) nin0))
                have f702 : Exa Z T677.heap os_651 "java/lang/String" := (Exa.keep q651_1 K677)
                have f703 : Fld Z T677.heap os_651 "java/lang/String" "coder" "B" (.int (0 : Int32)) := (Fld.keep q651_2 K677 (ninS (Ne.symm ne662) nin0))
                have f704 : Fld Z T677.heap os_651 "java/lang/String" "value" "[B" (.ref ob_651) := (Fld.keep q651_3 K677 (ninS (Ne.symm ne662) nin0))
                have f705 : Arv Z T677.heap ob_651 kb_651 .byte n_651 vs_651 (.int (0 : Int32)) := (Arv.keep q651_4 K677 (ninS (Ne.symm ne672) nin0))
                have f706 : Sta Z T677.heap "java/lang/String" "COMPACT_STRINGS" "Z" (.int g1) := (own_stakeep (own_stakeep0 f652 K651) K677 f673)
                have f707 : Exa Z T677.heap b554 "com/example/forcon/forcon/model/Permission" := (Exa.keep f667 K677)
                obtain ⟨cq687, kq687, q687a, q687b, q687c⟩ := isOf hZ eq685 f707
                obtain ⟨_, _, ⟨T687, L687, k687, n687⟩, -, X687, ⟨Lc687, hQ687, l687, y687, z687⟩, st687⟩ := X685.virtualBack hx (y := (⟨"com/example/forcon/forcon/model/Permission", "equals", "(Ljava/lang/Object;)Z"⟩ : MethodName)) (z := (⟨"com/example/forcon/forcon/model/Permission", "equals", "(Ljava/lang/Object;)Z"⟩ : MethodName)) hown (mvT hZ (hw _ (List.mem_of_getElem? (i := 47) rfl))) (mvT hZ (hw _ (List.mem_of_getElem? (i := 48) rfl))) (notFace_of_selects (args := #[]) (mvT hZ (hw _ (List.mem_of_getElem? (i := 50) rfl)))) (mvT hZ (hw _ (List.mem_of_getElem? (i := 50) rfl))) (mvT hZ (hw _ (List.mem_of_getElem? (i := 49) rfl))) (by decide) (backOf (W := 0) (rm_peq l Z aT hw [] b554 b612 x0 x1 (if (x4 &&& (4 : Int32)) = (0 : Int32) then (x0) else (x2)) (if (x4 &&& (8 : Int32)) = (0 : Int32) then (x1) else (x3)) os_558 os_566 os_626 os_651 ob_558 kb_558 n_558 vs_558 ob_566 kb_566 n_566 vs_566 ob_626 kb_626 n_626 vs_626 ob_651 kb_651 n_651 vs_651 g1 T677.heap n0 Z677 q677_0 f688 f689 q677_1 q677_2 f690 f691 f692 f693 f694 f695 f696 f697 f698 f699 f700 f701 f702 f703 f704 f705 ne636 ne660 f706 hg1 q558_5 q566_5 q626_5 q651_5) hZ (hw _ (List.mem_of_getElem? (i := 51) rfl)) (hw _ (List.mem_of_getElem? (i := 2) rfl)) (by decide) (by decide)) q687a q687c (g := (mkF m 194 #[.val (.int x0), .val (.int x1), .val (.int x2), .val (.int x3), .val (.int x4), .val (.ref b554), .val (.int (x4 &&& (3 : Int32))), .val (.int (if (x4 &&& (4 : Int32)) = (0 : Int32) then (x0) else (x2))), .val (.int (if (x4 &&& (8 : Int32)) = (0 : Int32) then (x1) else (x3))), .val (.ref b612), .val (.int (0 : Int32)), .val (.ref b612), .val (.ref b554)] [(.ref b612), (.ref b554)])) rfl (by rw [hml]; rfl) (Steps.refl _) (argsL := [(.ref b612)]) (rest := []) (lenOf pd7 rfl) rfl (by show 2 * 0 + _ ≤ _; exact Nat.le_of_eq rfl) (hb hby at_194) (fun _ _ => ⟨rfl, eq685, (by decide : 34 + 0 ≤ _), (by decide : 188 + 0 ≤ _)⟩)
                dsimp only [Pt.U, Pt.locs, Pt.cells, Pt.slots] at X687 l687 y687 z687 st687 hQ687
                subst l687 y687 z687
                obtain ⟨rfl, N687q, eq687⟩ := hQ687
                have N687 := Fr.app N685 N687q
                refine own_tr st687 ?_
                show own_Got p e below _ T687 (mkF m 197 #[.val (.int x0), .val (.int x1), .val (.int x2), .val (.int x3), .val (.int x4), .val (.ref b554), .val (.int (x4 &&& (3 : Int32))), .val (.int (if (x4 &&& (4 : Int32)) = (0 : Int32) then (x0) else (x2))), .val (.int (if (x4 &&& (8 : Int32)) = (0 : Int32) then (x1) else (x3))), .val (.ref b612), .val (.int (0 : Int32)), .val (.ref b612), .val (.ref b554)] [(.int (F_peq x0 x1 (if (x4 &&& (4 : Int32)) = (0 : Int32) then (x0) else (x2)) (if (x4 &&& (8 : Int32)) = (0 : Int32) then (x1) else (x3))))])
                refine g_iload X687 hx hby at_197 rfl (rfl : 197 + 2 = 199) ?_
                have c708 : (F_peq x0 x1 (if (x4 &&& (4 : Int32)) = (0 : Int32) then (x0) else (x2)) (if (x4 &&& (8 : Int32)) = (0 : Int32) then (x1) else (x3))) = (0 : Int32) := ((own_peq x0 x1 (if (x4 &&& (4 : Int32)) = (0 : Int32) then (x0) else (x2)) (if (x4 &&& (8 : Int32)) = (0 : Int32) then (x1) else (x3))).trans (by rw [if_pos c686]))
                refine g_icF X687 hx hby at_199 (teq c708).2 (rfl : 199 + 3 = 202) ?_
                refine g_aload X687 hx hby at_202 rfl rfl (rfl : 202 + 2 = 204) ?_
                refine g_aload X687 hx hby at_204 rfl rfl (rfl : 204 + 2 = 206) ?_
                obtain ⟨cq709, kq709, q709a, q709b, q709c⟩ := isOf hZ eq687 q677_0
                obtain ⟨_, _, ⟨T709, L709, k709, n709⟩, -, X709, ⟨Lc709, hQ709, l709, y709, z709⟩, st709⟩ := X687.virtualBack hx (y := (⟨"com/example/forcon/forcon/model/Permission", "equals", "(Ljava/lang/Object;)Z"⟩ : MethodName)) (z := (⟨"com/example/forcon/forcon/model/Permission", "equals", "(Ljava/lang/Object;)Z"⟩ : MethodName)) hown (mvT hZ (hw _ (List.mem_of_getElem? (i := 47) rfl))) (mvT hZ (hw _ (List.mem_of_getElem? (i := 48) rfl))) (notFace_of_selects (args := #[]) (mvT hZ (hw _ (List.mem_of_getElem? (i := 50) rfl)))) (mvT hZ (hw _ (List.mem_of_getElem? (i := 50) rfl))) (mvT hZ (hw _ (List.mem_of_getElem? (i := 49) rfl))) (by decide) (backOf (W := 0) (rm_peq l Z aT hw [] b612 b554 (if (x4 &&& (4 : Int32)) = (0 : Int32) then (x0) else (x2)) (if (x4 &&& (8 : Int32)) = (0 : Int32) then (x1) else (x3)) x0 x1 os_626 os_651 os_558 os_566 ob_626 kb_626 n_626 vs_626 ob_651 kb_651 n_651 vs_651 ob_558 kb_558 n_558 vs_558 ob_566 kb_566 n_566 vs_566 g1 T677.heap n0 Z677 f707 q677_1 q677_2 f688 f689 f698 f699 f700 f701 f702 f703 f704 f705 f690 f691 f692 f693 f694 f695 f696 f697 (Ne.symm ne636) (Ne.symm ne660) f706 hg1 q626_5 q651_5 q558_5 q566_5) hZ (hw _ (List.mem_of_getElem? (i := 51) rfl)) (hw _ (List.mem_of_getElem? (i := 2) rfl)) (by decide) (by decide)) q709a q709c (g := (mkF m 206 #[.val (.int x0), .val (.int x1), .val (.int x2), .val (.int x3), .val (.int x4), .val (.ref b554), .val (.int (x4 &&& (3 : Int32))), .val (.int (if (x4 &&& (4 : Int32)) = (0 : Int32) then (x0) else (x2))), .val (.int (if (x4 &&& (8 : Int32)) = (0 : Int32) then (x1) else (x3))), .val (.ref b612), .val (.int (0 : Int32)), .val (.ref b612), .val (.ref b554)] [(.ref b554), (.ref b612)])) rfl (by rw [hml]; rfl) (Steps.refl _) (argsL := [(.ref b554)]) (rest := []) (lenOf pd7 rfl) rfl (by show 2 * 0 + _ ≤ _; exact Nat.le_of_eq rfl) (hb hby at_206) (fun _ _ => ⟨rfl, eq687, (by decide : 34 + 0 ≤ _), (by decide : 188 + 0 ≤ _)⟩)
                dsimp only [Pt.U, Pt.locs, Pt.cells, Pt.slots] at X709 l709 y709 z709 st709 hQ709
                subst l709 y709 z709
                obtain ⟨rfl, N709q, eq709⟩ := hQ709
                have N709 := Fr.app N687 N709q
                refine own_tr st709 ?_
                show own_Got p e below _ T709 (mkF m 209 #[.val (.int x0), .val (.int x1), .val (.int x2), .val (.int x3), .val (.int x4), .val (.ref b554), .val (.int (x4 &&& (3 : Int32))), .val (.int (if (x4 &&& (4 : Int32)) = (0 : Int32) then (x0) else (x2))), .val (.int (if (x4 &&& (8 : Int32)) = (0 : Int32) then (x1) else (x3))), .val (.ref b612), .val (.int (0 : Int32)), .val (.ref b612), .val (.ref b554)] [(.int (F_peq (if (x4 &&& (4 : Int32)) = (0 : Int32) then (x0) else (x2)) (if (x4 &&& (8 : Int32)) = (0 : Int32) then (x1) else (x3)) x0 x1))])
                refine g_iload X709 hx hby at_209 rfl (rfl : 209 + 2 = 211) ?_
                have c710 : (F_peq (if (x4 &&& (4 : Int32)) = (0 : Int32) then (x0) else (x2)) (if (x4 &&& (8 : Int32)) = (0 : Int32) then (x1) else (x3)) x0 x1) = (0 : Int32) := ((own_peqS x0 x1 (if (x4 &&& (4 : Int32)) = (0 : Int32) then (x0) else (x2)) (if (x4 &&& (8 : Int32)) = (0 : Int32) then (x1) else (x3))).trans (by rw [if_pos c686]))
                refine g_icF X709 hx hby at_211 (teq c710).2 (rfl : 211 + 3 = 214) ?_
                refine g_iconst X709 hx hby (1 : Int32) at_214 (by decide) (rfl : 214 + 1 = 215) ?_
                refine g_goto X709 hx hby at_215 (by decide) (pc' := 219) (by decide) ?_
                subst hPP
                refine own_retNW X709 hx hby hS hkk hZ hEL eq709 CR677 hlk (t := .boolean) hrt (by simp) at_219 (by decide) (by decide) ?_
                show Q_law Z x0 x1 x2 x3 x4 g1 h0 n0 _ T709.heap _
                exact ⟨rfl, N709⟩
              · refine g_ifF X685 hx hby at_163 ((if0 _ _).trans (feq c686).1) (rfl : 163 + 3 = 166) ?_
                refine g_iloadN X685 hx hby at_166 rfl (rfl : 166 + 1 = 167) ?_
                refine g_iload X685 hx hby at_167 rfl (rfl : 167 + 2 = 169) ?_
                obtain ⟨_, _, ⟨T711, L711, k711, n711⟩, -, X711, ⟨Lc711, hQ711, l711, y711, z711⟩, st711⟩ := Jvm.LawKit.callS X685 hx (y := (⟨"com/example/forcon/forcon/model/PermissionEqualsPinLaw", "same", "(II)Z"⟩ : MethodName)) hown (mvT hZ (hw _ (List.mem_of_getElem? (i := 44) rfl))) (mvT hZ (hw _ (List.mem_of_getElem? (i := 45) rfl))) (mvT hZ (hw _ (List.mem_of_getElem? (i := 5) rfl))) (mvT hZ (hw _ (List.mem_of_getElem? (i := 46) rfl))) (by decide) (backOf (W := 0) (rm_sam l Z aT hw [] x1 (if (x4 &&& (8 : Int32)) = (0 : Int32) then (x1) else (x3)) T677.heap n0 Z677) hZ (hw _ (List.mem_of_getElem? (i := 46) rfl)) (hw _ (List.mem_of_getElem? (i := 5) rfl)) (by decide) (by decide)) (g := (mkF m 169 #[.val (.int x0), .val (.int x1), .val (.int x2), .val (.int x3), .val (.int x4), .val (.ref b554), .val (.int (x4 &&& (3 : Int32))), .val (.int (if (x4 &&& (4 : Int32)) = (0 : Int32) then (x0) else (x2))), .val (.int (if (x4 &&& (8 : Int32)) = (0 : Int32) then (x1) else (x3))), .val (.ref b612), .unset, .unset, .unset] [(.int (if (x4 &&& (8 : Int32)) = (0 : Int32) then (x1) else (x3))), (.int x1)])) rfl (by rw [hml]; rfl) (argsL := [(.int x1), (.int (if (x4 &&& (8 : Int32)) = (0 : Int32) then (x1) else (x3)))]) (rest := []) (lenOf pd30 rfl) rfl (by show 2 * 0 + _ ≤ _; exact Nat.le_of_eq rfl) (hb hby at_169) (fun _ _ => ⟨rfl, eq685, (by decide : 34 + 0 ≤ _), (by decide : 188 + 0 ≤ _)⟩)
                dsimp only [Pt.U, Pt.locs, Pt.cells, Pt.slots] at X711 l711 y711 z711 st711 hQ711
                subst l711 y711 z711
                obtain ⟨rfl, N711q, eq711⟩ := hQ711
                have N711 := Fr.app N685 N711q
                refine own_go st711 ?_
                show own_Got p e below _ T711 (mkF m 172 #[.val (.int x0), .val (.int x1), .val (.int x2), .val (.int x3), .val (.int x4), .val (.ref b554), .val (.int (x4 &&& (3 : Int32))), .val (.int (if (x4 &&& (4 : Int32)) = (0 : Int32) then (x0) else (x2))), .val (.int (if (x4 &&& (8 : Int32)) = (0 : Int32) then (x1) else (x3))), .val (.ref b612), .unset, .unset, .unset] [(.int (F_sam x1 (if (x4 &&& (8 : Int32)) = (0 : Int32) then (x1) else (x3))))])
                by_cases c712 : (F_sam x1 (if (x4 &&& (8 : Int32)) = (0 : Int32) then (x1) else (x3))) = (0 : Int32)
                · refine g_ifT X711 hx hby at_172 ((if0 _ _).trans (teq c712).1) (by decide) (pc' := 179) (by decide) ?_
                  refine g_iconst X711 hx hby (0 : Int32) at_179 (by decide) (rfl : 179 + 1 = 180) ?_
                  refine g_istore X711 hx hby #[.val (.int x0), .val (.int x1), .val (.int x2), .val (.int x3), .val (.int x4), .val (.ref b554), .val (.int (x4 &&& (3 : Int32))), .val (.int (if (x4 &&& (4 : Int32)) = (0 : Int32) then (x0) else (x2))), .val (.int (if (x4 &&& (8 : Int32)) = (0 : Int32) then (x1) else (x3))), .val (.ref b612), .val (.int (0 : Int32)), .unset, .unset] at_180 rfl (rfl : 180 + 2 = 182) ?_
                  refine g_aload X711 hx hby at_182 rfl rfl (rfl : 182 + 2 = 184) ?_
                  refine g_astore X711 hx hby #[.val (.int x0), .val (.int x1), .val (.int x2), .val (.int x3), .val (.int x4), .val (.ref b554), .val (.int (x4 &&& (3 : Int32))), .val (.int (if (x4 &&& (4 : Int32)) = (0 : Int32) then (x0) else (x2))), .val (.int (if (x4 &&& (8 : Int32)) = (0 : Int32) then (x1) else (x3))), .val (.ref b612), .val (.int (0 : Int32)), .val (.ref b612), .unset] at_184 rfl rfl (rfl : 184 + 2 = 186) ?_
                  refine g_aload X711 hx hby at_186 rfl rfl (rfl : 186 + 2 = 188) ?_
                  refine g_astore X711 hx hby #[.val (.int x0), .val (.int x1), .val (.int x2), .val (.int x3), .val (.int x4), .val (.ref b554), .val (.int (x4 &&& (3 : Int32))), .val (.int (if (x4 &&& (4 : Int32)) = (0 : Int32) then (x0) else (x2))), .val (.int (if (x4 &&& (8 : Int32)) = (0 : Int32) then (x1) else (x3))), .val (.ref b612), .val (.int (0 : Int32)), .val (.ref b612), .val (.ref b554)] at_188 rfl rfl (rfl : 188 + 2 = 190) ?_
                  refine g_aload X711 hx hby at_190 rfl rfl (rfl : 190 + 2 = 192) ?_
                  refine g_aload X711 hx hby at_192 rfl rfl (rfl : 192 + 2 = 194) ?_
                  have f714 : Fld Z T677.heap b554 "com/example/forcon/forcon/model/Permission" "operation" "Ljava/lang/String;" (.ref os_558) := (Fld.keep (Fld.keep (Fld.keep (Fld.ext E612 q578_1) K626 nin0) K651 nin0) K677 (ninS ne617 nin0))
                  have f715 : Fld Z T677.heap b554 "com/example/forcon/forcon/model/Permission" "object" "Ljava/lang/String;" (.ref os_566) := (Fld.keep (Fld.keep (Fld.keep (Fld.ext E612 q578_2) K626 nin0) K651 nin0) K677 (ninS ne617 nin0))
                  have f716 : Exa Z T677.heap os_558 "java/lang/String" := (Exa.keep f669 K677)
                  have f717 : Fld Z T677.heap os_558 "java/lang/String" "coder" "B" (.int (0 : Int32)) := (Fld.keep (Fld.keep (Fld.keep (Fld.ext E612 (Fld.keep (Fld.keep q558_2 K566 nin0) K578 (ninS (Ne.symm ne561) nin0))) K626 nin0) K651 nin0) K677 (ninS ne618 nin0))
                  have f718 : Fld Z T677.heap os_558 "java/lang/String" "value" "[B" (.ref ob_558) := (Fld.keep (Fld.keep (Fld.keep (Fld.ext E612 (Fld.keep (Fld.keep q558_3 K566 nin0) K578 (ninS (Ne.symm ne561) nin0))) K626 nin0) K651 nin0) K677 (ninS ne618 nin0))
                  have f719 : Arv Z T677.heap ob_558 kb_558 .byte n_558 vs_558 (.int (0 : Int32)) := (Arv.keep f680 K677 (ninS ne619 nin0))
                  have f720 : Exa Z T677.heap os_566 "java/lang/String" := (Exa.keep f671 K677)
                  have f721 : Fld Z T677.heap os_566 "java/lang/String" "coder" "B" (.int (0 : Int32)) := (Fld.keep (Fld.keep (Fld.keep (Fld.ext E612 (Fld.keep q566_2 K578 (ninS (Ne.symm ne569) nin0))) K626 nin0) K651 nin0) K677 (ninS ne620 nin0))
                  have f722 : Fld Z T677.heap os_566 "java/lang/String" "value" "[B" (.ref ob_566) := (Fld.keep (Fld.keep (Fld.keep (Fld.ext E612 (Fld.keep q566_3 K578 (ninS (Ne.symm ne569) nin0))) K626 nin0) K651 nin0) K677 (ninS ne620 nin0))
                  have f723 : Arv Z T677.heap ob_566 kb_566 .byte n_566 vs_566 (.int (0 : Int32)) := (Arv.keep f681 K677 (ninS ne621 nin0))
                  have f724 : Exa Z T677.heap os_626 "java/lang/String" := (Exa.keep f675 K677)
                  have f725 : Fld Z T677.heap os_626 "java/lang/String" "coder" "B" (.int (0 : Int32)) := (Fld.keep (Fld.keep q626_2 K651 nin0) K677 (ninS (Ne.symm ne640) nin0))
                  have f726 : Fld Z T677.heap os_626 "java/lang/String" "value" "[B" (.ref ob_626) := (Fld.keep (Fld.keep q626_3 K651 nin0) K677 (ninS (Ne.symm ne640) nin0))
                  have f727 : Arv Z T677.heap ob_626 kb_626 .byte n_626 vs_626 (.int (0 : Int32)) := (Arv.keep f682 K677 (ninS (Ne.symm ne648) nin0))
                  have f728 : Exa Z T677.heap os_651 "java/lang/String" := (Exa.keep q651_1 K677)
                  have f729 : Fld Z T677.heap os_651 "java/lang/String" "coder" "B" (.int (0 : Int32)) := (Fld.keep q651_2 K677 (ninS (Ne.symm ne662) nin0))
                  have f730 : Fld Z T677.heap os_651 "java/lang/String" "value" "[B" (.ref ob_651) := (Fld.keep q651_3 K677 (ninS (Ne.symm ne662) nin0))
                  have f731 : Arv Z T677.heap ob_651 kb_651 .byte n_651 vs_651 (.int (0 : Int32)) := (Arv.keep q651_4 K677 (ninS (Ne.symm ne672) nin0))
                  have f732 : Sta Z T677.heap "java/lang/String" "COMPACT_STRINGS" "Z" (.int g1) := (own_stakeep (own_stakeep0 f652 K651) K677 f673)
                  have f733 : Exa Z T677.heap b554 "com/example/forcon/forcon/model/Permission" := (Exa.keep f667 K677)
                  obtain ⟨cq713, kq713, q713a, q713b, q713c⟩ := isOf hZ eq711 f733
                  obtain ⟨_, _, ⟨T713, L713, k713, n713⟩, -, X713, ⟨Lc713, hQ713, l713, y713, z713⟩, st713⟩ := X711.virtualBack hx (y := (⟨"com/example/forcon/forcon/model/Permission", "equals", "(Ljava/lang/Object;)Z"⟩ : MethodName)) (z := (⟨"com/example/forcon/forcon/model/Permission", "equals", "(Ljava/lang/Object;)Z"⟩ : MethodName)) hown (mvT hZ (hw _ (List.mem_of_getElem? (i := 47) rfl))) (mvT hZ (hw _ (List.mem_of_getElem? (i := 48) rfl))) (notFace_of_selects (args := #[]) (mvT hZ (hw _ (List.mem_of_getElem? (i := 50) rfl)))) (mvT hZ (hw _ (List.mem_of_getElem? (i := 50) rfl))) (mvT hZ (hw _ (List.mem_of_getElem? (i := 49) rfl))) (by decide) (backOf (W := 0) (rm_peq l Z aT hw [] b554 b612 x0 x1 (if (x4 &&& (4 : Int32)) = (0 : Int32) then (x0) else (x2)) (if (x4 &&& (8 : Int32)) = (0 : Int32) then (x1) else (x3)) os_558 os_566 os_626 os_651 ob_558 kb_558 n_558 vs_558 ob_566 kb_566 n_566 vs_566 ob_626 kb_626 n_626 vs_626 ob_651 kb_651 n_651 vs_651 g1 T677.heap n0 Z677 q677_0 f714 f715 q677_1 q677_2 f716 f717 f718 f719 f720 f721 f722 f723 f724 f725 f726 f727 f728 f729 f730 f731 ne636 ne660 f732 hg1 q558_5 q566_5 q626_5 q651_5) hZ (hw _ (List.mem_of_getElem? (i := 51) rfl)) (hw _ (List.mem_of_getElem? (i := 2) rfl)) (by decide) (by decide)) q713a q713c (g := (mkF m 194 #[.val (.int x0), .val (.int x1), .val (.int x2), .val (.int x3), .val (.int x4), .val (.ref b554), .val (.int (x4 &&& (3 : Int32))), .val (.int (if (x4 &&& (4 : Int32)) = (0 : Int32) then (x0) else (x2))), .val (.int (if (x4 &&& (8 : Int32)) = (0 : Int32) then (x1) else (x3))), .val (.ref b612), .val (.int (0 : Int32)), .val (.ref b612), .val (.ref b554)] [(.ref b612), (.ref b554)])) rfl (by rw [hml]; rfl) (Steps.refl _) (argsL := [(.ref b612)]) (rest := []) (lenOf pd7 rfl) rfl (by show 2 * 0 + _ ≤ _; exact Nat.le_of_eq rfl) (hb hby at_194) (fun _ _ => ⟨rfl, eq711, (by decide : 34 + 0 ≤ _), (by decide : 188 + 0 ≤ _)⟩)
                  dsimp only [Pt.U, Pt.locs, Pt.cells, Pt.slots] at X713 l713 y713 z713 st713 hQ713
                  subst l713 y713 z713
                  obtain ⟨rfl, N713q, eq713⟩ := hQ713
                  have N713 := Fr.app N711 N713q
                  refine own_tr st713 ?_
                  show own_Got p e below _ T713 (mkF m 197 #[.val (.int x0), .val (.int x1), .val (.int x2), .val (.int x3), .val (.int x4), .val (.ref b554), .val (.int (x4 &&& (3 : Int32))), .val (.int (if (x4 &&& (4 : Int32)) = (0 : Int32) then (x0) else (x2))), .val (.int (if (x4 &&& (8 : Int32)) = (0 : Int32) then (x1) else (x3))), .val (.ref b612), .val (.int (0 : Int32)), .val (.ref b612), .val (.ref b554)] [(.int (F_peq x0 x1 (if (x4 &&& (4 : Int32)) = (0 : Int32) then (x0) else (x2)) (if (x4 &&& (8 : Int32)) = (0 : Int32) then (x1) else (x3))))])
                  refine g_iload X713 hx hby at_197 rfl (rfl : 197 + 2 = 199) ?_
                  have c734 : (F_peq x0 x1 (if (x4 &&& (4 : Int32)) = (0 : Int32) then (x0) else (x2)) (if (x4 &&& (8 : Int32)) = (0 : Int32) then (x1) else (x3))) = (0 : Int32) := ((own_peq x0 x1 (if (x4 &&& (4 : Int32)) = (0 : Int32) then (x0) else (x2)) (if (x4 &&& (8 : Int32)) = (0 : Int32) then (x1) else (x3))).trans (by rw [if_neg c686, if_pos c712]))
                  refine g_icF X713 hx hby at_199 (teq c734).2 (rfl : 199 + 3 = 202) ?_
                  refine g_aload X713 hx hby at_202 rfl rfl (rfl : 202 + 2 = 204) ?_
                  refine g_aload X713 hx hby at_204 rfl rfl (rfl : 204 + 2 = 206) ?_
                  obtain ⟨cq735, kq735, q735a, q735b, q735c⟩ := isOf hZ eq713 q677_0
                  obtain ⟨_, _, ⟨T735, L735, k735, n735⟩, -, X735, ⟨Lc735, hQ735, l735, y735, z735⟩, st735⟩ := X713.virtualBack hx (y := (⟨"com/example/forcon/forcon/model/Permission", "equals", "(Ljava/lang/Object;)Z"⟩ : MethodName)) (z := (⟨"com/example/forcon/forcon/model/Permission", "equals", "(Ljava/lang/Object;)Z"⟩ : MethodName)) hown (mvT hZ (hw _ (List.mem_of_getElem? (i := 47) rfl))) (mvT hZ (hw _ (List.mem_of_getElem? (i := 48) rfl))) (notFace_of_selects (args := #[]) (mvT hZ (hw _ (List.mem_of_getElem? (i := 50) rfl)))) (mvT hZ (hw _ (List.mem_of_getElem? (i := 50) rfl))) (mvT hZ (hw _ (List.mem_of_getElem? (i := 49) rfl))) (by decide) (backOf (W := 0) (rm_peq l Z aT hw [] b612 b554 (if (x4 &&& (4 : Int32)) = (0 : Int32) then (x0) else (x2)) (if (x4 &&& (8 : Int32)) = (0 : Int32) then (x1) else (x3)) x0 x1 os_626 os_651 os_558 os_566 ob_626 kb_626 n_626 vs_626 ob_651 kb_651 n_651 vs_651 ob_558 kb_558 n_558 vs_558 ob_566 kb_566 n_566 vs_566 g1 T677.heap n0 Z677 f733 q677_1 q677_2 f714 f715 f724 f725 f726 f727 f728 f729 f730 f731 f716 f717 f718 f719 f720 f721 f722 f723 (Ne.symm ne636) (Ne.symm ne660) f732 hg1 q626_5 q651_5 q558_5 q566_5) hZ (hw _ (List.mem_of_getElem? (i := 51) rfl)) (hw _ (List.mem_of_getElem? (i := 2) rfl)) (by decide) (by decide)) q735a q735c (g := (mkF m 206 #[.val (.int x0), .val (.int x1), .val (.int x2), .val (.int x3), .val (.int x4), .val (.ref b554), .val (.int (x4 &&& (3 : Int32))), .val (.int (if (x4 &&& (4 : Int32)) = (0 : Int32) then (x0) else (x2))), .val (.int (if (x4 &&& (8 : Int32)) = (0 : Int32) then (x1) else (x3))), .val (.ref b612), .val (.int (0 : Int32)), .val (.ref b612), .val (.ref b554)] [(.ref b554), (.ref b612)])) rfl (by rw [hml]; rfl) (Steps.refl _) (argsL := [(.ref b554)]) (rest := []) (lenOf pd7 rfl) rfl (by show 2 * 0 + _ ≤ _; exact Nat.le_of_eq rfl) (hb hby at_206) (fun _ _ => ⟨rfl, eq713, (by decide : 34 + 0 ≤ _), (by decide : 188 + 0 ≤ _)⟩)
                  dsimp only [Pt.U, Pt.locs, Pt.cells, Pt.slots] at X735 l735 y735 z735 st735 hQ735
                  subst l735 y735 z735
                  obtain ⟨rfl, N735q, eq735⟩ := hQ735
                  have N735 := Fr.app N713 N735q
                  refine own_tr st735 ?_
                  show own_Got p e below _ T735 (mkF m 209 #[.val (.int x0), .val (.int x1), .val (.int x2), .val (.int x3), .val (.int x4), .val (.ref b554), .val (.int (x4 &&& (3 : Int32))), .val (.int (if (x4 &&& (4 : Int32)) = (0 : Int32) then (x0) else (x2))), .val (.int (if (x4 &&& (8 : Int32)) = (0 : Int32) then (x1) else (x3))), .val (.ref b612), .val (.int (0 : Int32)), .val (.ref b612), .val (.ref b554)] [(.int (F_peq (if (x4 &&& (4 : Int32)) = (0 : Int32) then (x0) else (x2)) (if (x4 &&& (8 : Int32)) = (0 : Int32) then (x1) else (x3)) x0 x1))])
                  refine g_iload X735 hx hby at_209 rfl (rfl : 209 + 2 = 211) ?_
                  have c736 : (F_peq (if (x4 &&& (4 : Int32)) = (0 : Int32) then (x0) else (x2)) (if (x4 &&& (8 : Int32)) = (0 : Int32) then (x1) else (x3)) x0 x1) = (0 : Int32) := ((own_peqS x0 x1 (if (x4 &&& (4 : Int32)) = (0 : Int32) then (x0) else (x2)) (if (x4 &&& (8 : Int32)) = (0 : Int32) then (x1) else (x3))).trans (by rw [if_neg c686, if_pos c712]))
                  refine g_icF X735 hx hby at_211 (teq c736).2 (rfl : 211 + 3 = 214) ?_
                  refine g_iconst X735 hx hby (1 : Int32) at_214 (by decide) (rfl : 214 + 1 = 215) ?_
                  refine g_goto X735 hx hby at_215 (by decide) (pc' := 219) (by decide) ?_
                  subst hPP
                  refine own_retNW X735 hx hby hS hkk hZ hEL eq735 CR677 hlk (t := .boolean) hrt (by simp) at_219 (by decide) (by decide) ?_
                  show Q_law Z x0 x1 x2 x3 x4 g1 h0 n0 _ T735.heap _
                  exact ⟨rfl, N735⟩
                · refine g_ifF X711 hx hby at_172 ((if0 _ _).trans (feq c712).1) (rfl : 172 + 3 = 175) ?_
                  refine g_iconst X711 hx hby (1 : Int32) at_175 (by decide) (rfl : 175 + 1 = 176) ?_
                  refine g_goto X711 hx hby at_176 (by decide) (pc' := 180) (by decide) ?_
                  refine g_istore X711 hx hby #[.val (.int x0), .val (.int x1), .val (.int x2), .val (.int x3), .val (.int x4), .val (.ref b554), .val (.int (x4 &&& (3 : Int32))), .val (.int (if (x4 &&& (4 : Int32)) = (0 : Int32) then (x0) else (x2))), .val (.int (if (x4 &&& (8 : Int32)) = (0 : Int32) then (x1) else (x3))), .val (.ref b612), .val (.int (1 : Int32)), .unset, .unset] at_180 rfl (rfl : 180 + 2 = 182) ?_
                  refine g_aload X711 hx hby at_182 rfl rfl (rfl : 182 + 2 = 184) ?_
                  refine g_astore X711 hx hby #[.val (.int x0), .val (.int x1), .val (.int x2), .val (.int x3), .val (.int x4), .val (.ref b554), .val (.int (x4 &&& (3 : Int32))), .val (.int (if (x4 &&& (4 : Int32)) = (0 : Int32) then (x0) else (x2))), .val (.int (if (x4 &&& (8 : Int32)) = (0 : Int32) then (x1) else (x3))), .val (.ref b612), .val (.int (1 : Int32)), .val (.ref b612), .unset] at_184 rfl rfl (rfl : 184 + 2 = 186) ?_
                  refine g_aload X711 hx hby at_186 rfl rfl (rfl : 186 + 2 = 188) ?_
                  refine g_astore X711 hx hby #[.val (.int x0), .val (.int x1), .val (.int x2), .val (.int x3), .val (.int x4), .val (.ref b554), .val (.int (x4 &&& (3 : Int32))), .val (.int (if (x4 &&& (4 : Int32)) = (0 : Int32) then (x0) else (x2))), .val (.int (if (x4 &&& (8 : Int32)) = (0 : Int32) then (x1) else (x3))), .val (.ref b612), .val (.int (1 : Int32)), .val (.ref b612), .val (.ref b554)] at_188 rfl rfl (rfl : 188 + 2 = 190) ?_
                  refine g_aload X711 hx hby at_190 rfl rfl (rfl : 190 + 2 = 192) ?_
                  refine g_aload X711 hx hby at_192 rfl rfl (rfl : 192 + 2 = 194) ?_
                  have f738 : Fld Z T677.heap b554 "com/example/forcon/forcon/model/Permission" "operation" "Ljava/lang/String;" (.ref os_558) := (Fld.keep (Fld.keep (Fld.keep (Fld.ext E612 q578_1) K626 nin0) K651 nin0) K677 (ninS ne617 nin0))
                  have f739 : Fld Z T677.heap b554 "com/example/forcon/forcon/model/Permission" "object" "Ljava/lang/String;" (.ref os_566) := (Fld.keep (Fld.keep (Fld.keep (Fld.ext E612 q578_2) K626 nin0) K651 nin0) K677 (ninS ne617 nin0))
                  have f740 : Exa Z T677.heap os_558 "java/lang/String" := (Exa.keep f669 K677)
                  have f741 : Fld Z T677.heap os_558 "java/lang/String" "coder" "B" (.int (0 : Int32)) := (Fld.keep (Fld.keep (Fld.keep (Fld.ext E612 (Fld.keep (Fld.keep q558_2 K566 nin0) K578 (ninS (Ne.symm ne561) nin0))) K626 nin0) K651 nin0) K677 (ninS ne618 nin0))
                  have f742 : Fld Z T677.heap os_558 "java/lang/String" "value" "[B" (.ref ob_558) := (Fld.keep (Fld.keep (Fld.keep (Fld.ext E612 (Fld.keep (Fld.keep q558_3 K566 nin0) K578 (ninS (Ne.symm ne561) nin0))) K626 nin0) K651 nin0) K677 (ninS ne618 nin0))
                  have f743 : Arv Z T677.heap ob_558 kb_558 .byte n_558 vs_558 (.int (0 : Int32)) := (Arv.keep f680 K677 (ninS ne619 nin0))
                  have f744 : Exa Z T677.heap os_566 "java/lang/String" := (Exa.keep f671 K677)
                  have f745 : Fld Z T677.heap os_566 "java/lang/String" "coder" "B" (.int (0 : Int32)) := (Fld.keep (Fld.keep (Fld.keep (Fld.ext E612 (Fld.keep q566_2 K578 (ninS (Ne.symm ne569) nin0))) K626 nin0) K651 nin0) K677 (ninS ne620 nin0))
                  have f746 : Fld Z T677.heap os_566 "java/lang/String" "value" "[B" (.ref ob_566) := (Fld.keep (Fld.keep (Fld.keep (Fld.ext E612 (Fld.keep q566_3 K578 (ninS (Ne.symm ne569) nin0))) K626 nin0) K651 nin0) K677 (ninS ne620 nin0))
                  have f747 : Arv Z T677.heap ob_566 kb_566 .byte n_566 vs_566 (.int (0 : Int32)) := (Arv.keep f681 K677 (ninS ne621 nin0))
                  have f748 : Exa Z T677.heap os_626 "java/lang/String" := (Exa.keep f675 K677)
                  have f749 : Fld Z T677.heap os_626 "java/lang/String" "coder" "B" (.int (0 : Int32)) := (Fld.keep (Fld.keep q626_2 K651 nin0) K677 (ninS (Ne.symm ne640) nin0))
                  have f750 : Fld Z T677.heap os_626 "java/lang/String" "value" "[B" (.ref ob_626) := (Fld.keep (Fld.keep q626_3 K651 nin0) K677 (ninS (Ne.symm ne640) nin0))
                  have f751 : Arv Z T677.heap ob_626 kb_626 .byte n_626 vs_626 (.int (0 : Int32)) := (Arv.keep f682 K677 (ninS (Ne.symm ne648) nin0))
                  have f752 : Exa Z T677.heap os_651 "java/lang/String" := (Exa.keep q651_1 K677)
                  have f753 : Fld Z T677.heap os_651 "java/lang/String" "coder" "B" (.int (0 : Int32)) := (Fld.keep q651_2 K677 (ninS (Ne.symm ne662) nin0))
                  have f754 : Fld Z T677.heap os_651 "java/lang/String" "value" "[B" (.ref ob_651) := (Fld.keep q651_3 K677 (ninS (Ne.symm ne662) nin0))
                  have f755 : Arv Z T677.heap ob_651 kb_651 .byte n_651 vs_651 (.int (0 : Int32)) := (Arv.keep q651_4 K677 (ninS (Ne.symm ne672) nin0))
                  have f756 : Sta Z T677.heap "java/lang/String" "COMPACT_STRINGS" "Z" (.int g1) := (own_stakeep (own_stakeep0 f652 K651) K677 f673)
                  have f757 : Exa Z T677.heap b554 "com/example/forcon/forcon/model/Permission" := (Exa.keep f667 K677)
                  obtain ⟨cq737, kq737, q737a, q737b, q737c⟩ := isOf hZ eq711 f757
                  obtain ⟨_, _, ⟨T737, L737, k737, n737⟩, -, X737, ⟨Lc737, hQ737, l737, y737, z737⟩, st737⟩ := X711.virtualBack hx (y := (⟨"com/example/forcon/forcon/model/Permission", "equals", "(Ljava/lang/Object;)Z"⟩ : MethodName)) (z := (⟨"com/example/forcon/forcon/model/Permission", "equals", "(Ljava/lang/Object;)Z"⟩ : MethodName)) hown (mvT hZ (hw _ (List.mem_of_getElem? (i := 47) rfl))) (mvT hZ (hw _ (List.mem_of_getElem? (i := 48) rfl))) (notFace_of_selects (args := #[]) (mvT hZ (hw _ (List.mem_of_getElem? (i := 50) rfl)))) (mvT hZ (hw _ (List.mem_of_getElem? (i := 50) rfl))) (mvT hZ (hw _ (List.mem_of_getElem? (i := 49) rfl))) (by decide) (backOf (W := 0) (rm_peq l Z aT hw [] b554 b612 x0 x1 (if (x4 &&& (4 : Int32)) = (0 : Int32) then (x0) else (x2)) (if (x4 &&& (8 : Int32)) = (0 : Int32) then (x1) else (x3)) os_558 os_566 os_626 os_651 ob_558 kb_558 n_558 vs_558 ob_566 kb_566 n_566 vs_566 ob_626 kb_626 n_626 vs_626 ob_651 kb_651 n_651 vs_651 g1 T677.heap n0 Z677 q677_0 f738 f739 q677_1 q677_2 f740 f741 f742 f743 f744 f745 f746 f747 f748 f749 f750 f751 f752 f753 f754 f755 ne636 ne660 f756 hg1 q558_5 q566_5 q626_5 q651_5) hZ (hw _ (List.mem_of_getElem? (i := 51) rfl)) (hw _ (List.mem_of_getElem? (i := 2) rfl)) (by decide) (by decide)) q737a q737c (g := (mkF m 194 #[.val (.int x0), .val (.int x1), .val (.int x2), .val (.int x3), .val (.int x4), .val (.ref b554), .val (.int (x4 &&& (3 : Int32))), .val (.int (if (x4 &&& (4 : Int32)) = (0 : Int32) then (x0) else (x2))), .val (.int (if (x4 &&& (8 : Int32)) = (0 : Int32) then (x1) else (x3))), .val (.ref b612), .val (.int (1 : Int32)), .val (.ref b612), .val (.ref b554)] [(.ref b612), (.ref b554)])) rfl (by rw [hml]; rfl) (Steps.refl _) (argsL := [(.ref b612)]) (rest := []) (lenOf pd7 rfl) rfl (by show 2 * 0 + _ ≤ _; exact Nat.le_of_eq rfl) (hb hby at_194) (fun _ _ => ⟨rfl, eq711, (by decide : 34 + 0 ≤ _), (by decide : 188 + 0 ≤ _)⟩)
                  dsimp only [Pt.U, Pt.locs, Pt.cells, Pt.slots] at X737 l737 y737 z737 st737 hQ737
                  subst l737 y737 z737
                  obtain ⟨rfl, N737q, eq737⟩ := hQ737
                  have N737 := Fr.app N711 N737q
                  refine own_tr st737 ?_
                  show own_Got p e below _ T737 (mkF m 197 #[.val (.int x0), .val (.int x1), .val (.int x2), .val (.int x3), .val (.int x4), .val (.ref b554), .val (.int (x4 &&& (3 : Int32))), .val (.int (if (x4 &&& (4 : Int32)) = (0 : Int32) then (x0) else (x2))), .val (.int (if (x4 &&& (8 : Int32)) = (0 : Int32) then (x1) else (x3))), .val (.ref b612), .val (.int (1 : Int32)), .val (.ref b612), .val (.ref b554)] [(.int (F_peq x0 x1 (if (x4 &&& (4 : Int32)) = (0 : Int32) then (x0) else (x2)) (if (x4 &&& (8 : Int32)) = (0 : Int32) then (x1) else (x3))))])
                  refine g_iload X737 hx hby at_197 rfl (rfl : 197 + 2 = 199) ?_
                  have c758 : (F_peq x0 x1 (if (x4 &&& (4 : Int32)) = (0 : Int32) then (x0) else (x2)) (if (x4 &&& (8 : Int32)) = (0 : Int32) then (x1) else (x3))) = (1 : Int32) := ((own_peq x0 x1 (if (x4 &&& (4 : Int32)) = (0 : Int32) then (x0) else (x2)) (if (x4 &&& (8 : Int32)) = (0 : Int32) then (x1) else (x3))).trans (by rw [if_neg c686, if_neg c712]))
                  refine g_icF X737 hx hby at_199 (teq c758).2 (rfl : 199 + 3 = 202) ?_
                  refine g_aload X737 hx hby at_202 rfl rfl (rfl : 202 + 2 = 204) ?_
                  refine g_aload X737 hx hby at_204 rfl rfl (rfl : 204 + 2 = 206) ?_
                  obtain ⟨cq759, kq759, q759a, q759b, q759c⟩ := isOf hZ eq737 q677_0
                  obtain ⟨_, _, ⟨T759, L759, k759, n759⟩, -, X759, ⟨Lc759, hQ759, l759, y759, z759⟩, st759⟩ := X737.virtualBack hx (y := (⟨"com/example/forcon/forcon/model/Permission", "equals", "(Ljava/lang/Object;)Z"⟩ : MethodName)) (z := (⟨"com/example/forcon/forcon/model/Permission", "equals", "(Ljava/lang/Object;)Z"⟩ : MethodName)) hown (mvT hZ (hw _ (List.mem_of_getElem? (i := 47) rfl))) (mvT hZ (hw _ (List.mem_of_getElem? (i := 48) rfl))) (notFace_of_selects (args := #[]) (mvT hZ (hw _ (List.mem_of_getElem? (i := 50) rfl)))) (mvT hZ (hw _ (List.mem_of_getElem? (i := 50) rfl))) (mvT hZ (hw _ (List.mem_of_getElem? (i := 49) rfl))) (by decide) (backOf (W := 0) (rm_peq l Z aT hw [] b612 b554 (if (x4 &&& (4 : Int32)) = (0 : Int32) then (x0) else (x2)) (if (x4 &&& (8 : Int32)) = (0 : Int32) then (x1) else (x3)) x0 x1 os_626 os_651 os_558 os_566 ob_626 kb_626 n_626 vs_626 ob_651 kb_651 n_651 vs_651 ob_558 kb_558 n_558 vs_558 ob_566 kb_566 n_566 vs_566 g1 T677.heap n0 Z677 f757 q677_1 q677_2 f738 f739 f748 f749 f750 f751 f752 f753 f754 f755 f740 f741 f742 f743 f744 f745 f746 f747 (Ne.symm ne636) (Ne.symm ne660) f756 hg1 q626_5 q651_5 q558_5 q566_5) hZ (hw _ (List.mem_of_getElem? (i := 51) rfl)) (hw _ (List.mem_of_getElem? (i := 2) rfl)) (by decide) (by decide)) q759a q759c (g := (mkF m 206 #[.val (.int x0), .val (.int x1), .val (.int x2), .val (.int x3), .val (.int x4), .val (.ref b554), .val (.int (x4 &&& (3 : Int32))), .val (.int (if (x4 &&& (4 : Int32)) = (0 : Int32) then (x0) else (x2))), .val (.int (if (x4 &&& (8 : Int32)) = (0 : Int32) then (x1) else (x3))), .val (.ref b612), .val (.int (1 : Int32)), .val (.ref b612), .val (.ref b554)] [(.ref b554), (.ref b612)])) rfl (by rw [hml]; rfl) (Steps.refl _) (argsL := [(.ref b554)]) (rest := []) (lenOf pd7 rfl) rfl (by show 2 * 0 + _ ≤ _; exact Nat.le_of_eq rfl) (hb hby at_206) (fun _ _ => ⟨rfl, eq737, (by decide : 34 + 0 ≤ _), (by decide : 188 + 0 ≤ _)⟩)
                  dsimp only [Pt.U, Pt.locs, Pt.cells, Pt.slots] at X759 l759 y759 z759 st759 hQ759
                  subst l759 y759 z759
                  obtain ⟨rfl, N759q, eq759⟩ := hQ759
                  have N759 := Fr.app N737 N759q
                  refine own_tr st759 ?_
                  show own_Got p e below _ T759 (mkF m 209 #[.val (.int x0), .val (.int x1), .val (.int x2), .val (.int x3), .val (.int x4), .val (.ref b554), .val (.int (x4 &&& (3 : Int32))), .val (.int (if (x4 &&& (4 : Int32)) = (0 : Int32) then (x0) else (x2))), .val (.int (if (x4 &&& (8 : Int32)) = (0 : Int32) then (x1) else (x3))), .val (.ref b612), .val (.int (1 : Int32)), .val (.ref b612), .val (.ref b554)] [(.int (F_peq (if (x4 &&& (4 : Int32)) = (0 : Int32) then (x0) else (x2)) (if (x4 &&& (8 : Int32)) = (0 : Int32) then (x1) else (x3)) x0 x1))])
                  refine g_iload X759 hx hby at_209 rfl (rfl : 209 + 2 = 211) ?_
                  have c760 : (F_peq (if (x4 &&& (4 : Int32)) = (0 : Int32) then (x0) else (x2)) (if (x4 &&& (8 : Int32)) = (0 : Int32) then (x1) else (x3)) x0 x1) = (1 : Int32) := ((own_peqS x0 x1 (if (x4 &&& (4 : Int32)) = (0 : Int32) then (x0) else (x2)) (if (x4 &&& (8 : Int32)) = (0 : Int32) then (x1) else (x3))).trans (by rw [if_neg c686, if_neg c712]))
                  refine g_icF X759 hx hby at_211 (teq c760).2 (rfl : 211 + 3 = 214) ?_
                  refine g_iconst X759 hx hby (1 : Int32) at_214 (by decide) (rfl : 214 + 1 = 215) ?_
                  refine g_goto X759 hx hby at_215 (by decide) (pc' := 219) (by decide) ?_
                  subst hPP
                  refine own_retNW X759 hx hby hS hkk hZ hEL eq759 CR677 hlk (t := .boolean) hrt (by simp) at_219 (by decide) (by decide) ?_
                  show Q_law Z x0 x1 x2 x3 x4 g1 h0 n0 _ T759.heap _
                  exact ⟨rfl, N759⟩
            · refine g_ifF X578 hx hby at_129 ((if0 _ _).trans (feq c611).1) (rfl : 129 + 3 = 132) ?_
              refine g_iloadN X578 hx hby at_132 rfl (rfl : 132 + 1 = 133) ?_
              refine g_istore X578 hx hby #[.val (.int x0), .val (.int x1), .val (.int x2), .val (.int x3), .val (.int x4), .val (.ref b554), .val (.int (x4 &&& (3 : Int32))), .val (.int x1), .val (.int (if (x4 &&& (8 : Int32)) = (0 : Int32) then (x1) else (x3))), .unset, .unset, .unset, .unset] at_133 rfl (rfl : 133 + 2 = 135) ?_
              refine g_iloadN X578 hx hby at_135 rfl (rfl : 135 + 1 = 136) ?_
              refine g_istore X578 hx hby #[.val (.int x0), .val (.int x1), .val (.int x2), .val (.int x3), .val (.int x4), .val (.ref b554), .val (.int (x4 &&& (3 : Int32))), .val (.int x1), .val (.int x0), .unset, .unset, .unset, .unset] at_136 rfl (rfl : 136 + 2 = 138) ?_
              have f762 : Exa Z T578.heap os_558 "java/lang/String" := (Exa.keep f576 K578)
              have f763 : Arv Z T578.heap ob_558 kb_558 .byte n_558 vs_558 (.int (0 : Int32)) := (Arv.keep f581 K578 (ninS (Ne.symm ne563) nin0))
              have f764 : Exa Z T578.heap os_566 "java/lang/String" := (Exa.keep q566_1 K578)
              have f765 : Arv Z T578.heap ob_566 kb_566 .byte n_566 vs_566 (.int (0 : Int32)) := (Arv.keep q566_4 K578 (ninS (Ne.symm ne573) nin0))
              obtain ⟨T761, h761, X761, e761, E761, A761, D761, -, st761⟩ := newO X578 hx hZ hown (hw _ (List.mem_of_getElem? (i := 0) rfl)) (hw _ (List.mem_of_getElem? (i := 1) rfl)) (hw _ (List.mem_of_getElem? (i := 2) rfl)) rfl (g := (mkF m 138 #[.val (.int x0), .val (.int x1), .val (.int x2), .val (.int x3), .val (.int x4), .val (.ref b554), .val (.int (x4 &&& (3 : Int32))), .val (.int x1), .val (.int x0), .unset, .unset, .unset, .unset] [])) rfl (hb hby at_138) (by decide) (by decide)
              obtain ⟨b761, g761⟩ : ∃ z, z = T578.heap.size := ⟨_, rfl⟩
              rw [← g761] at A761 D761 st761
              have ne766 : b554 ≠ b761 := Nat.ne_of_lt (Nat.lt_of_lt_of_le (q578_0).lt (Nat.le_of_eq g761.symm))
              have ne767 : os_558 ≠ b761 := Nat.ne_of_lt (Nat.lt_of_lt_of_le (f762).lt (Nat.le_of_eq g761.symm))
              have ne768 : ob_558 ≠ b761 := Nat.ne_of_lt (Nat.lt_of_lt_of_le (f763).lt (Nat.le_of_eq g761.symm))
              have ne769 : os_566 ≠ b761 := Nat.ne_of_lt (Nat.lt_of_lt_of_le (f764).lt (Nat.le_of_eq g761.symm))
              have ne770 : ob_566 ≠ b761 := Nat.ne_of_lt (Nat.lt_of_lt_of_le (f765).lt (Nat.le_of_eq g761.symm))
              have Z761 : n0 ≤ h761.size := Nat.le_trans Z578 E761.1
              have hkk := Nat.le_trans hkk E761.1
              have CR761 := CHr.trans CR578 (CHr.ext E761 CR578.1)
              have sf771 := Safe.ext E761 CR578.1 sf582
              have sf772 := Safe.ext E761 CR578.1 (Safe.new (Nat.le_of_eq g761.symm))
              have ge761 : n0 ≤ b761 := Nat.le_trans Z578 (Nat.le_of_eq g761.symm)
              have f773 : Fld Z h761 b761 "com/example/forcon/forcon/model/Permission" "operation" "Ljava/lang/String;" .null := D761 (Or.inr (hw _ (List.mem_of_getElem? (i := 40) rfl))) (ty := (.object "java/lang/String")) (by decide)
              have f774 : Fld Z h761 b761 "com/example/forcon/forcon/model/Permission" "object" "Ljava/lang/String;" .null := D761 (Or.inr (hw _ (List.mem_of_getElem? (i := 43) rfl))) (ty := (.object "java/lang/String")) (by decide)
              refine own_go st761 ?_
              show own_Got p e below _ T761 (mkF m 141 #[.val (.int x0), .val (.int x1), .val (.int x2), .val (.int x3), .val (.int x4), .val (.ref b554), .val (.int (x4 &&& (3 : Int32))), .val (.int x1), .val (.int x0), .unset, .unset, .unset, .unset] [(.ref b761)])
              refine g_dup X761 hx hby at_141 rfl (rfl : 141 + 1 = 142) ?_
              refine g_iload X761 hx hby at_142 rfl (rfl : 142 + 2 = 144) ?_
              have f776 : Sta Z h761 "java/lang/String" "COMPACT_STRINGS" "Z" (.int g1) := (Sta.ext E761 (own_stakeep (own_stakeep0 f567 K566) K578 f574))
              have f777 : Exa Z h761 b554 "com/example/forcon/forcon/model/Permission" := (Exa.ext E761 q578_0)
              have f778 : Exa Z h761 os_558 "java/lang/String" := (Exa.ext E761 f762)
              have f779 : Arv Z h761 ob_558 kb_558 .byte n_558 vs_558 (.int (0 : Int32)) := (f763.ext E761)
              have f780 : Exa Z h761 os_566 "java/lang/String" := (Exa.ext E761 f764)
              have f781 : Arv Z h761 ob_566 kb_566 .byte n_566 vs_566 (.int (0 : Int32)) := (f765.ext E761)
              obtain ⟨_, _, ⟨T775, L775, k775, n775⟩, -, X775, S2775, gr775, ⟨Lc775, hQ775, l775, y775, z775, C775⟩, st775⟩ := Jvm.RoadKit.callSS X761 hx (y := (⟨"com/example/forcon/forcon/model/PermissionEqualsPinLaw", "str", "(I)Ljava/lang/String;"⟩ : MethodName)) hown (mvT hZ (hw _ (List.mem_of_getElem? (i := 3) rfl))) (mvT hZ (hw _ (List.mem_of_getElem? (i := 4) rfl))) (mvT hZ (hw _ (List.mem_of_getElem? (i := 5) rfl))) (mvT hZ (hw _ (List.mem_of_getElem? (i := 6) rfl))) (by decide) (backOfSH (W := 2) (rm_str l Z aT hw [] x1 g1 h761 n0 Z761 f776 hg1) hZ (hw _ (List.mem_of_getElem? (i := 6) rfl)) (hw _ (List.mem_of_getElem? (i := 5) rfl)) (by decide) (by decide) hEL CR761.1) (g := (mkF m 144 #[.val (.int x0), .val (.int x1), .val (.int x2), .val (.int x3), .val (.int x4), .val (.ref b554), .val (.int (x4 &&& (3 : Int32))), .val (.int x1), .val (.int x0), .unset, .unset, .unset, .unset] [(.int x1), (.ref b761), (.ref b761)])) rfl (by rw [hml]; rfl) (argsL := [(.int x1)]) (rest := [(.ref b761), (.ref b761)]) (lenOf pd28 rfl) rfl (by show 2 * 0 + _ ≤ _; exact Nat.le_of_eq rfl) (hb hby at_144) (fun _ _ => ⟨rfl, e761, (by decide : 18 + 6 ≤ _), (by decide : 96 + 12 ≤ _)⟩)
              dsimp only [Pt.U, Pt.locs, Pt.cells, Pt.slots] at X775 l775 y775 z775 st775 hQ775 C775 S2775 gr775
              subst l775 y775 z775
              obtain ⟨X775, hS, hZ, hown⟩ := rebS hS (Nat.le_trans hkk (Nat.le_of_eq (congrArg Array.size e761.symm))) X775 S2775 gr775 hZ hown
              obtain ⟨os_775, ob_775, kb_775, n_775, vs_775, rfl, N775q, K775, q775_0, q775_1, q775_2, q775_3, q775_4, q775_5⟩ := hQ775
              have N775 := Fr.app N578 N775q
              have Z775 : n0 ≤ T775.heap.size := Nat.le_trans Z761 K775.1
              have hkk := Nat.le_trans hkk (Nat.le_refl _)
              have CR775 := CHr.trans CR761 (C775)
              have sf782 := CHr.safe C775 f777.lt sf771
              have sf783 := CHr.safe C775 A761.lt sf772
              have hkk := Nat.le_refl (T775.heap.size)
              have ne784 : b554 ≠ os_775 := Nat.ne_of_lt (Nat.lt_of_lt_of_le (f777).lt q775_0)
              have ne785 : os_558 ≠ os_775 := Nat.ne_of_lt (Nat.lt_of_lt_of_le (f778).lt q775_0)
              have ne786 : ob_558 ≠ os_775 := Nat.ne_of_lt (Nat.lt_of_lt_of_le (f779).lt q775_0)
              have ne787 : os_566 ≠ os_775 := Nat.ne_of_lt (Nat.lt_of_lt_of_le (f780).lt q775_0)
              have ne788 : ob_566 ≠ os_775 := Nat.ne_of_lt (Nat.lt_of_lt_of_le (f781).lt q775_0)
              have ne789 : b761 ≠ os_775 := Nat.ne_of_lt (Nat.lt_of_lt_of_le (A761).lt q775_0)
              have ge790 : n0 ≤ os_775 := Nat.le_trans Z761 q775_0
              have f792 : Exa Z T775.heap b554 "com/example/forcon/forcon/model/Permission" := (Exa.keep f777 K775)
              have ne791 : b554 ≠ ob_775 := Exa.neArv f792 q775_4 (hw _ (List.mem_of_getElem? (i := 1) rfl))
              have f794 : Exa Z T775.heap os_558 "java/lang/String" := (Exa.keep f778 K775)
              have ne793 : os_558 ≠ ob_775 := Exa.neArv f794 q775_4 (hw _ (List.mem_of_getElem? (i := 8) rfl))
              have f796 : Exa Z T775.heap os_566 "java/lang/String" := (Exa.keep f780 K775)
              have ne795 : os_566 ≠ ob_775 := Exa.neArv f796 q775_4 (hw _ (List.mem_of_getElem? (i := 8) rfl))
              have f798 : Exa Z T775.heap b761 "com/example/forcon/forcon/model/Permission" := (Exa.keep A761 K775)
              have ne797 : b761 ≠ ob_775 := Exa.neArv f798 q775_4 (hw _ (List.mem_of_getElem? (i := 1) rfl))
              have ne799 : os_775 ≠ ob_775 := Exa.neArv q775_1 q775_4 (hw _ (List.mem_of_getElem? (i := 8) rfl))
              refine own_tr st775 ?_
              show own_Got p e below _ T775 (mkF m 147 #[.val (.int x0), .val (.int x1), .val (.int x2), .val (.int x3), .val (.int x4), .val (.ref b554), .val (.int (x4 &&& (3 : Int32))), .val (.int x1), .val (.int x0), .unset, .unset, .unset, .unset] [(.ref os_775), (.ref b761), (.ref b761)])
              refine g_iload X775 hx hby at_147 rfl (rfl : 147 + 2 = 149) ?_
              have f801 : Sta Z T775.heap "java/lang/String" "COMPACT_STRINGS" "Z" (.int g1) := (own_stakeep0 f776 K775)
              have f802 : Arv Z T775.heap ob_558 kb_558 .byte n_558 vs_558 (.int (0 : Int32)) := (Arv.keep f779 K775 nin0)
              have f803 : Arv Z T775.heap ob_566 kb_566 .byte n_566 vs_566 (.int (0 : Int32)) := (Arv.keep f781 K775 nin0)
              obtain ⟨_, _, ⟨T800, L800, k800, n800⟩, -, X800, S2800, gr800, ⟨Lc800, hQ800, l800, y800, z800, C800⟩, st800⟩ := Jvm.RoadKit.callSS X775 hx (y := (⟨"com/example/forcon/forcon/model/PermissionEqualsPinLaw", "str", "(I)Ljava/lang/String;"⟩ : MethodName)) hown (mvT hZ (hw _ (List.mem_of_getElem? (i := 3) rfl))) (mvT hZ (hw _ (List.mem_of_getElem? (i := 4) rfl))) (mvT hZ (hw _ (List.mem_of_getElem? (i := 5) rfl))) (mvT hZ (hw _ (List.mem_of_getElem? (i := 6) rfl))) (by decide) (backOfSH (W := 3) (rm_str l Z aT hw [] x0 g1 T775.heap n0 Z775 f801 hg1) hZ (hw _ (List.mem_of_getElem? (i := 6) rfl)) (hw _ (List.mem_of_getElem? (i := 5) rfl)) (by decide) (by decide) hEL CR775.1) (g := (mkF m 149 #[.val (.int x0), .val (.int x1), .val (.int x2), .val (.int x3), .val (.int x4), .val (.ref b554), .val (.int (x4 &&& (3 : Int32))), .val (.int x1), .val (.int x0), .unset, .unset, .unset, .unset] [(.int x0), (.ref os_775), (.ref b761), (.ref b761)])) rfl (by rw [hml]; rfl) (argsL := [(.int x0)]) (rest := [(.ref os_775), (.ref b761), (.ref b761)]) (lenOf pd28 rfl) rfl (by show 2 * 0 + _ ≤ _; exact Nat.le_of_eq rfl) (hb hby at_149) (fun _ _ => ⟨rfl, rfl, (by decide : 24 + 6 ≤ _), (by decide : 108 + 12 ≤ _)⟩)
              dsimp only [Pt.U, Pt.locs, Pt.cells, Pt.slots] at X800 l800 y800 z800 st800 hQ800 C800 S2800 gr800
              subst l800 y800 z800
              obtain ⟨X800, hS, hZ, hown⟩ := rebS hS (Nat.le_trans hkk (Nat.le_of_eq (congrArg Array.size rfl.symm))) X800 S2800 gr800 hZ hown
              obtain ⟨os_800, ob_800, kb_800, n_800, vs_800, rfl, N800q, K800, q800_0, q800_1, q800_2, q800_3, q800_4, q800_5⟩ := hQ800
              have N800 := Fr.app N775 N800q
              have Z800 : n0 ≤ T800.heap.size := Nat.le_trans Z775 K800.1
              have hkk := Nat.le_trans hkk (Nat.le_refl _)
              have CR800 := CHr.trans CR775 (C800)
              have sf804 := CHr.safe C800 f792.lt sf782
              have sf805 := CHr.safe C800 f798.lt sf783
              have hkk := Nat.le_refl (T800.heap.size)
              have ne806 : b554 ≠ os_800 := Nat.ne_of_lt (Nat.lt_of_lt_of_le (f792).lt q800_0)
              have ne807 : os_558 ≠ os_800 := Nat.ne_of_lt (Nat.lt_of_lt_of_le (f794).lt q800_0)
              have ne808 : ob_558 ≠ os_800 := Nat.ne_of_lt (Nat.lt_of_lt_of_le (f802).lt q800_0)
              have ne809 : os_566 ≠ os_800 := Nat.ne_of_lt (Nat.lt_of_lt_of_le (f796).lt q800_0)
              have ne810 : ob_566 ≠ os_800 := Nat.ne_of_lt (Nat.lt_of_lt_of_le (f803).lt q800_0)
              have ne811 : b761 ≠ os_800 := Nat.ne_of_lt (Nat.lt_of_lt_of_le (f798).lt q800_0)
              have ne812 : os_775 ≠ os_800 := Nat.ne_of_lt (Nat.lt_of_lt_of_le (q775_1).lt q800_0)
              have ne813 : ob_775 ≠ os_800 := Nat.ne_of_lt (Nat.lt_of_lt_of_le (q775_4).lt q800_0)
              have ge814 : n0 ≤ os_800 := Nat.le_trans Z775 q800_0
              have f816 : Exa Z T800.heap b554 "com/example/forcon/forcon/model/Permission" := (Exa.keep f792 K800)
              have ne815 : b554 ≠ ob_800 := Exa.neArv f816 q800_4 (hw _ (List.mem_of_getElem? (i := 1) rfl))
              have f818 : Exa Z T800.heap os_558 "java/lang/String" := (Exa.keep f794 K800)
              have ne817 : os_558 ≠ ob_800 := Exa.neArv f818 q800_4 (hw _ (List.mem_of_getElem? (i := 8) rfl))
              have f820 : Exa Z T800.heap os_566 "java/lang/String" := (Exa.keep f796 K800)
              have ne819 : os_566 ≠ ob_800 := Exa.neArv f820 q800_4 (hw _ (List.mem_of_getElem? (i := 8) rfl))
              have f822 : Exa Z T800.heap b761 "com/example/forcon/forcon/model/Permission" := (Exa.keep f798 K800)
              have ne821 : b761 ≠ ob_800 := Exa.neArv f822 q800_4 (hw _ (List.mem_of_getElem? (i := 1) rfl))
              have f824 : Exa Z T800.heap os_775 "java/lang/String" := (Exa.keep q775_1 K800)
              have ne823 : os_775 ≠ ob_800 := Exa.neArv f824 q800_4 (hw _ (List.mem_of_getElem? (i := 8) rfl))
              have ne825 : os_800 ≠ ob_800 := Exa.neArv q800_1 q800_4 (hw _ (List.mem_of_getElem? (i := 8) rfl))
              refine own_tr st800 ?_
              show own_Got p e below _ T800 (mkF m 152 #[.val (.int x0), .val (.int x1), .val (.int x2), .val (.int x3), .val (.int x4), .val (.ref b554), .val (.int (x4 &&& (3 : Int32))), .val (.int x1), .val (.int x0), .unset, .unset, .unset, .unset] [(.ref os_800), (.ref os_775), (.ref b761), (.ref b761)])
              have f827 : Fld Z T800.heap b761 "com/example/forcon/forcon/model/Permission" "operation" "Ljava/lang/String;" .null := (Fld.keep (Fld.keep f773 K775 nin0) K800 nin0)
              have f828 : Fld Z T800.heap b761 "com/example/forcon/forcon/model/Permission" "object" "Ljava/lang/String;" .null := (Fld.keep (Fld.keep f774 K775 nin0) K800 nin0)
              have f829 : Arv Z T800.heap ob_558 kb_558 .byte n_558 vs_558 (.int (0 : Int32)) := (Arv.keep f802 K800 nin0)
              have f830 : Arv Z T800.heap ob_566 kb_566 .byte n_566 vs_566 (.int (0 : Int32)) := (Arv.keep f803 K800 nin0)
              have f831 : Arv Z T800.heap ob_775 kb_775 .byte n_775 vs_775 (.int (0 : Int32)) := (Arv.keep q775_4 K800 nin0)
              obtain ⟨_, _, ⟨T826, L826, k826, n826⟩, -, X826, S2826, gr826, ⟨Lc826, hQ826, l826, y826, z826, C826⟩, st826⟩ := X800.specialBackS hx (y := (⟨"com/example/forcon/forcon/model/Permission", "<init>", "(Ljava/lang/String;Ljava/lang/String;)V"⟩ : MethodName)) rfl hown (mvT hZ (hw _ (List.mem_of_getElem? (i := 29) rfl))) (mvT hZ (hw _ (List.mem_of_getElem? (i := 30) rfl))) (mvT hZ (hw _ (List.mem_of_getElem? (i := 31) rfl))) (by decide) (backOfSH (W := 1) (rm_pin l Z aT hw [] b761 os_775 os_800 T800.heap n0 Z800 f822 f827 f828 ge761 f824 q800_1) hZ (hw _ (List.mem_of_getElem? (i := 31) rfl)) (hw _ (List.mem_of_getElem? (i := 2) rfl)) (by decide) (by decide) hEL CR800.1) (g := (mkF m 152 #[.val (.int x0), .val (.int x1), .val (.int x2), .val (.int x3), .val (.int x4), .val (.ref b554), .val (.int (x4 &&& (3 : Int32))), .val (.int x1), .val (.int x0), .unset, .unset, .unset, .unset] [(.ref os_800), (.ref os_775), (.ref b761), (.ref b761)])) rfl (by rw [hml]; rfl) (Steps.refl _) (a := b761) (argsL := [(.ref os_775), (.ref os_800)]) (rest := [(.ref b761)]) (lenOf pd29 rfl) rfl (by show 2 * 0 + _ ≤ _; exact Nat.le_of_eq rfl) (hb hby at_152) (fun _ _ => ⟨rfl, rfl, (by decide : 30 + 4 ≤ _), (by decide : 120 + 68 ≤ _)⟩)
              dsimp only [Pt.U, Pt.locs, Pt.cells, Pt.slots] at X826 l826 y826 z826 st826 hQ826 C826 S2826 gr826
              subst l826 y826 z826
              obtain ⟨X826, hS, hZ, hown⟩ := rebS hS (Nat.le_trans hkk (Nat.le_of_eq (congrArg Array.size rfl.symm))) X826 S2826 gr826 hZ hown
              obtain ⟨rfl, N826q, K826, q826_0, q826_1, q826_2⟩ := hQ826
              have N826 := Fr.app N800 N826q
              have Z826 : n0 ≤ T826.heap.size := Nat.le_trans Z800 K826.1
              have hkk := Nat.le_trans hkk (Nat.le_refl _)
              have CR826 := CHr.trans CR800 (C826)
              have sf832 := CHr.safe C826 f816.lt sf804
              have sf833 := CHr.safe C826 f822.lt sf805
              have hkk := Nat.le_refl (T826.heap.size)
              refine own_tr st826 ?_
              show own_Got p e below _ T826 (mkF m 155 #[.val (.int x0), .val (.int x1), .val (.int x2), .val (.int x3), .val (.int x4), .val (.ref b554), .val (.int (x4 &&& (3 : Int32))), .val (.int x1), .val (.int x0), .unset, .unset, .unset, .unset] [(.ref b761)])
              refine g_astore X826 hx hby #[.val (.int x0), .val (.int x1), .val (.int x2), .val (.int x3), .val (.int x4), .val (.ref b554), .val (.int (x4 &&& (3 : Int32))), .val (.int x1), .val (.int x0), .val (.ref b761), .unset, .unset, .unset] at_155 rfl rfl (rfl : 155 + 2 = 157) ?_
              refine g_iloadN X826 hx hby at_157 rfl (rfl : 157 + 1 = 158) ?_
              refine g_iload X826 hx hby at_158 rfl (rfl : 158 + 2 = 160) ?_
              obtain ⟨_, _, ⟨T834, L834, k834, n834⟩, -, X834, ⟨Lc834, hQ834, l834, y834, z834⟩, st834⟩ := Jvm.LawKit.callS X826 hx (y := (⟨"com/example/forcon/forcon/model/PermissionEqualsPinLaw", "same", "(II)Z"⟩ : MethodName)) hown (mvT hZ (hw _ (List.mem_of_getElem? (i := 44) rfl))) (mvT hZ (hw _ (List.mem_of_getElem? (i := 45) rfl))) (mvT hZ (hw _ (List.mem_of_getElem? (i := 5) rfl))) (mvT hZ (hw _ (List.mem_of_getElem? (i := 46) rfl))) (by decide) (backOf (W := 0) (rm_sam l Z aT hw [] x0 x1 T826.heap n0 Z826) hZ (hw _ (List.mem_of_getElem? (i := 46) rfl)) (hw _ (List.mem_of_getElem? (i := 5) rfl)) (by decide) (by decide)) (g := (mkF m 160 #[.val (.int x0), .val (.int x1), .val (.int x2), .val (.int x3), .val (.int x4), .val (.ref b554), .val (.int (x4 &&& (3 : Int32))), .val (.int x1), .val (.int x0), .val (.ref b761), .unset, .unset, .unset] [(.int x1), (.int x0)])) rfl (by rw [hml]; rfl) (argsL := [(.int x0), (.int x1)]) (rest := []) (lenOf pd30 rfl) rfl (by show 2 * 0 + _ ≤ _; exact Nat.le_of_eq rfl) (hb hby at_160) (fun _ _ => ⟨rfl, rfl, (by decide : 34 + 0 ≤ _), (by decide : 188 + 0 ≤ _)⟩)
              dsimp only [Pt.U, Pt.locs, Pt.cells, Pt.slots] at X834 l834 y834 z834 st834 hQ834
              subst l834 y834 z834
              obtain ⟨rfl, N834q, eq834⟩ := hQ834
              have N834 := Fr.app N826 N834q
              refine own_go st834 ?_
              show own_Got p e below _ T834 (mkF m 163 #[.val (.int x0), .val (.int x1), .val (.int x2), .val (.int x3), .val (.int x4), .val (.ref b554), .val (.int (x4 &&& (3 : Int32))), .val (.int x1), .val (.int x0), .val (.ref b761), .unset, .unset, .unset] [(.int (F_sam x0 x1))])
              by_cases c835 : (F_sam x0 x1) = (0 : Int32)
              · refine g_ifT X834 hx hby at_163 ((if0 _ _).trans (teq c835).1) (by decide) (pc' := 179) (by decide) ?_
                refine g_iconst X834 hx hby (0 : Int32) at_179 (by decide) (rfl : 179 + 1 = 180) ?_
                refine g_istore X834 hx hby #[.val (.int x0), .val (.int x1), .val (.int x2), .val (.int x3), .val (.int x4), .val (.ref b554), .val (.int (x4 &&& (3 : Int32))), .val (.int x1), .val (.int x0), .val (.ref b761), .val (.int (0 : Int32)), .unset, .unset] at_180 rfl (rfl : 180 + 2 = 182) ?_
                refine g_aload X834 hx hby at_182 rfl rfl (rfl : 182 + 2 = 184) ?_
                refine g_astore X834 hx hby #[.val (.int x0), .val (.int x1), .val (.int x2), .val (.int x3), .val (.int x4), .val (.ref b554), .val (.int (x4 &&& (3 : Int32))), .val (.int x1), .val (.int x0), .val (.ref b761), .val (.int (0 : Int32)), .val (.ref b761), .unset] at_184 rfl rfl (rfl : 184 + 2 = 186) ?_
                refine g_aload X834 hx hby at_186 rfl rfl (rfl : 186 + 2 = 188) ?_
                refine g_astore X834 hx hby #[.val (.int x0), .val (.int x1), .val (.int x2), .val (.int x3), .val (.int x4), .val (.ref b554), .val (.int (x4 &&& (3 : Int32))), .val (.int x1), .val (.int x0), .val (.ref b761), .val (.int (0 : Int32)), .val (.ref b761), .val (.ref b554)] at_188 rfl rfl (rfl : 188 + 2 = 190) ?_
                refine g_aload X834 hx hby at_190 rfl rfl (rfl : 190 + 2 = 192) ?_
                refine g_aload X834 hx hby at_192 rfl rfl (rfl : 192 + 2 = 194) ?_
                have f837 : Fld Z T826.heap b554 "com/example/forcon/forcon/model/Permission" "operation" "Ljava/lang/String;" (.ref os_558) := (Fld.keep (Fld.keep (Fld.keep (Fld.ext E761 q578_1) K775 nin0) K800 nin0) K826 (ninS ne766 nin0))
                have f838 : Fld Z T826.heap b554 "com/example/forcon/forcon/model/Permission" "object" "Ljava/lang/String;" (.ref os_566) := (Fld.keep (Fld.keep (Fld.keep (Fld.ext E761 q578_2) K775 nin0) K800 nin0) K826 (ninS ne766 nin0))
                have f839 : Exa Z T826.heap os_558 "java/lang/String" := (Exa.keep f818 K826)
                have f840 : Fld Z T826.heap os_558 "java/lang/String" "coder" "B" (.int (0 : Int32)) := (Fld.keep (Fld.keep (Fld.keep (Fld.ext E761 (Fld.keep (Fld.keep q558_2 K566 nin0) K578 (ninS (Ne.symm ne561) nin0))) K775 nin0) K800 nin0) K826 (ninS ne767 nin0))
                have f841 : Fld Z T826.heap os_558 "java/lang/String" "value" "[B" (.ref ob_558) := (Fld.keep (Fld.keep (Fld.keep (Fld.ext E761 (Fld.keep (Fld.keep q558_3 K566 nin0) K578 (ninS (Ne.symm ne561) nin0))) K775 nin0) K800 nin0) K826 (ninS ne767 nin0))
                have f842 : Arv Z T826.heap ob_558 kb_558 .byte n_558 vs_558 (.int (0 : Int32)) := (Arv.keep f829 K826 (ninS ne768 nin0))
                have f843 : Exa Z T826.heap os_566 "java/lang/String" := (Exa.keep f820 K826)
                have f844 : Fld Z T826.heap os_566 "java/lang/String" "coder" "B" (.int (0 : Int32)) := (Fld.keep (Fld.keep (Fld.keep (Fld.ext E761 (Fld.keep q566_2 K578 (ninS (Ne.symm ne569) nin0))) K775 nin0) K800 nin0) K826 (ninS ne769 nin0))
                have f845 : Fld Z T826.heap os_566 "java/lang/String" "value" "[B" (.ref ob_566) := (Fld.keep (Fld.keep (Fld.keep (Fld.ext E761 (Fld.keep q566_3 K578 (ninS (Ne.symm ne569) nin0))) K775 nin0) K800 nin0) K826 (ninS ne769 nin0))
                have f846 : Arv Z T826.heap ob_566 kb_566 .byte n_566 vs_566 (.int (0 : Int32)) := (Arv.keep f830 K826 (ninS ne770 nin0))
                have f847 : Exa Z T826.heap os_775 "java/lang/String" := (Exa.keep f824 K826)
                have f848 : Fld Z T826.heap os_775 "java/lang/String" "coder" "B" (.int (0 : Int32)) := (Fld.keep (Fld.keep q775_2 K800 nin0) K826 (ninS (Ne.symm ne789) nin0))
                have f849 : Fld Z T826.heap os_775 "java/lang/String" "value" "[B" (.ref ob_775) := (Fld.keep (Fld.keep q775_3 K800 nin0) K826 (ninS (Ne.symm ne789) nin0))
                have f850 : Arv Z T826.heap ob_775 kb_775 .byte n_775 vs_775 (.int (0 : Int32)) := (Arv.keep f831 K826 (ninS (Ne.symm ne797) nin0))
                have f851 : Exa Z T826.heap os_800 "java/lang/String" := (Exa.keep q800_1 K826)
                have f852 : Fld Z T826.heap os_800 "java/lang/String" "coder" "B" (.int (0 : Int32)) := (Fld.keep q800_2 K826 (ninS (Ne.symm ne811) nin0))
                have f853 : Fld Z T826.heap os_800 "java/lang/String" "value" "[B" (.ref ob_800) := (Fld.keep q800_3 K826 (ninS (Ne.symm ne811) nin0))
                have f854 : Arv Z T826.heap ob_800 kb_800 .byte n_800 vs_800 (.int (0 : Int32)) := (Arv.keep q800_4 K826 (ninS (Ne.symm ne821) nin0))
                have f855 : Sta Z T826.heap "java/lang/String" "COMPACT_STRINGS" "Z" (.int g1) := (own_stakeep (own_stakeep0 f801 K800) K826 f822)
                have f856 : Exa Z T826.heap b554 "com/example/forcon/forcon/model/Permission" := (Exa.keep f816 K826)
                obtain ⟨cq836, kq836, q836a, q836b, q836c⟩ := isOf hZ eq834 f856
                obtain ⟨_, _, ⟨T836, L836, k836, n836⟩, -, X836, ⟨Lc836, hQ836, l836, y836, z836⟩, st836⟩ := X834.virtualBack hx (y := (⟨"com/example/forcon/forcon/model/Permission", "equals", "(Ljava/lang/Object;)Z"⟩ : MethodName)) (z := (⟨"com/example/forcon/forcon/model/Permission", "equals", "(Ljava/lang/Object;)Z"⟩ : MethodName)) hown (mvT hZ (hw _ (List.mem_of_getElem? (i := 47) rfl))) (mvT hZ (hw _ (List.mem_of_getElem? (i := 48) rfl))) (notFace_of_selects (args := #[]) (mvT hZ (hw _ (List.mem_of_getElem? (i := 50) rfl)))) (mvT hZ (hw _ (List.mem_of_getElem? (i := 50) rfl))) (mvT hZ (hw _ (List.mem_of_getElem? (i := 49) rfl))) (by decide) (backOf (W := 0) (rm_peq l Z aT hw [] b554 b761 x0 x1 x1 x0 os_558 os_566 os_775 os_800 ob_558 kb_558 n_558 vs_558 ob_566 kb_566 n_566 vs_566 ob_775 kb_775 n_775 vs_775 ob_800 kb_800 n_800 vs_800 g1 T826.heap n0 Z826 q826_0 f837 f838 q826_1 q826_2 f839 f840 f841 f842 f843 f844 f845 f846 f847 f848 f849 f850 f851 f852 f853 f854 ne785 ne809 f855 hg1 q558_5 q566_5 q775_5 q800_5) hZ (hw _ (List.mem_of_getElem? (i := 51) rfl)) (hw _ (List.mem_of_getElem? (i := 2) rfl)) (by decide) (by decide)) q836a q836c (g := (mkF m 194 #[.val (.int x0), .val (.int x1), .val (.int x2), .val (.int x3), .val (.int x4), .val (.ref b554), .val (.int (x4 &&& (3 : Int32))), .val (.int x1), .val (.int x0), .val (.ref b761), .val (.int (0 : Int32)), .val (.ref b761), .val (.ref b554)] [(.ref b761), (.ref b554)])) rfl (by rw [hml]; rfl) (Steps.refl _) (argsL := [(.ref b761)]) (rest := []) (lenOf pd7 rfl) rfl (by show 2 * 0 + _ ≤ _; exact Nat.le_of_eq rfl) (hb hby at_194) (fun _ _ => ⟨rfl, eq834, (by decide : 34 + 0 ≤ _), (by decide : 188 + 0 ≤ _)⟩)
                dsimp only [Pt.U, Pt.locs, Pt.cells, Pt.slots] at X836 l836 y836 z836 st836 hQ836
                subst l836 y836 z836
                obtain ⟨rfl, N836q, eq836⟩ := hQ836
                have N836 := Fr.app N834 N836q
                refine own_tr st836 ?_
                show own_Got p e below _ T836 (mkF m 197 #[.val (.int x0), .val (.int x1), .val (.int x2), .val (.int x3), .val (.int x4), .val (.ref b554), .val (.int (x4 &&& (3 : Int32))), .val (.int x1), .val (.int x0), .val (.ref b761), .val (.int (0 : Int32)), .val (.ref b761), .val (.ref b554)] [(.int (F_peq x0 x1 x1 x0))])
                refine g_iload X836 hx hby at_197 rfl (rfl : 197 + 2 = 199) ?_
                have c857 : (F_peq x0 x1 x1 x0) = (0 : Int32) := ((own_peq x0 x1 x1 x0).trans (by rw [if_pos c835]))
                refine g_icF X836 hx hby at_199 (teq c857).2 (rfl : 199 + 3 = 202) ?_
                refine g_aload X836 hx hby at_202 rfl rfl (rfl : 202 + 2 = 204) ?_
                refine g_aload X836 hx hby at_204 rfl rfl (rfl : 204 + 2 = 206) ?_
                obtain ⟨cq858, kq858, q858a, q858b, q858c⟩ := isOf hZ eq836 q826_0
                obtain ⟨_, _, ⟨T858, L858, k858, n858⟩, -, X858, ⟨Lc858, hQ858, l858, y858, z858⟩, st858⟩ := X836.virtualBack hx (y := (⟨"com/example/forcon/forcon/model/Permission", "equals", "(Ljava/lang/Object;)Z"⟩ : MethodName)) (z := (⟨"com/example/forcon/forcon/model/Permission", "equals", "(Ljava/lang/Object;)Z"⟩ : MethodName)) hown (mvT hZ (hw _ (List.mem_of_getElem? (i := 47) rfl))) (mvT hZ (hw _ (List.mem_of_getElem? (i := 48) rfl))) (notFace_of_selects (args := #[]) (mvT hZ (hw _ (List.mem_of_getElem? (i := 50) rfl)))) (mvT hZ (hw _ (List.mem_of_getElem? (i := 50) rfl))) (mvT hZ (hw _ (List.mem_of_getElem? (i := 49) rfl))) (by decide) (backOf (W := 0) (rm_peq l Z aT hw [] b761 b554 _ x0 x0 x1 os_775 os_800 os_558 os_566 ob_775 kb_775 n_775 vs_775 ob_800 kb_800 n_800 vs_800 ob_558 kb_558 n_558 vs_558 ob_566 kb_566 n_566 vs_566 g1 T826.heap n0 Z826 f856 q826_1 q826_2 f837 f838 f847 f848 f849 f850 f851 f852 f853 f854 f839 f840 f841 f842 f843 f844 f845 f846 (Ne.symm ne785) (Ne.symm ne809) f855 hg1 q775_5 q800_5 q558_5 q566_5) hZ (hw _ (List.mem_of_getElem? (i := 51) rfl)) (hw _ (List.mem_of_getElem? (i := 2) rfl)) (by decide) (by decide)) q858a q858c (g := (mkF m 206 #[.val (.int x0), .val (.int x1), .val (.int x2), .val (.int x3), .val (.int x4), .val (.ref b554), .val (.int (x4 &&& (3 : Int32))), .val (.int x1), .val (.int x0), .val (.ref b761), .val (.int (0 : Int32)), .val (.ref b761), .val (.ref b554)] [(.ref b554), (.ref b761)])) rfl (by rw [hml]; rfl) (Steps.refl _) (argsL := [(.ref b554)]) (rest := []) (lenOf pd7 rfl) rfl (by show 2 * 0 + _ ≤ _; exact Nat.le_of_eq rfl) (hb hby at_206) (fun _ _ => ⟨rfl, eq836, (by decide : 34 + 0 ≤ _), (by decide : 188 + 0 ≤ _)⟩)
                dsimp only [Pt.U, Pt.locs, Pt.cells, Pt.slots] at X858 l858 y858 z858 st858 hQ858
                subst l858 y858 z858
                obtain ⟨rfl, N858q, eq858⟩ := hQ858
                have N858 := Fr.app N836 N858q
                refine own_tr st858 ?_
                show own_Got p e below _ T858 (mkF m 209 #[.val (.int x0), .val (.int x1), .val (.int x2), .val (.int x3), .val (.int x4), .val (.ref b554), .val (.int (x4 &&& (3 : Int32))), .val (.int x1), .val (.int x0), .val (.ref b761), .val (.int (0 : Int32)), .val (.ref b761), .val (.ref b554)] [(.int (F_peq x1 x0 x0 x1))])
                refine g_iload X858 hx hby at_209 rfl (rfl : 209 + 2 = 211) ?_
                have c859 : (F_peq x1 x0 x0 x1) = (0 : Int32) := ((own_peqS x0 x1 x1 x0).trans (by rw [if_pos c835]))
                refine g_icF X858 hx hby at_211 (teq c859).2 (rfl : 211 + 3 = 214) ?_
                refine g_iconst X858 hx hby (1 : Int32) at_214 (by decide) (rfl : 214 + 1 = 215) ?_
                refine g_goto X858 hx hby at_215 (by decide) (pc' := 219) (by decide) ?_
                subst hPP
                refine own_retNW X858 hx hby hS hkk hZ hEL eq858 CR826 hlk (t := .boolean) hrt (by simp) at_219 (by decide) (by decide) ?_
                show Q_law Z x0 x1 x2 x3 x4 g1 h0 n0 _ T858.heap _
                exact ⟨rfl, N858⟩
              · refine g_ifF X834 hx hby at_163 ((if0 _ _).trans (feq c835).1) (rfl : 163 + 3 = 166) ?_
                refine g_iloadN X834 hx hby at_166 rfl (rfl : 166 + 1 = 167) ?_
                refine g_iload X834 hx hby at_167 rfl (rfl : 167 + 2 = 169) ?_
                obtain ⟨_, _, ⟨T860, L860, k860, n860⟩, -, X860, ⟨Lc860, hQ860, l860, y860, z860⟩, st860⟩ := Jvm.LawKit.callS X834 hx (y := (⟨"com/example/forcon/forcon/model/PermissionEqualsPinLaw", "same", "(II)Z"⟩ : MethodName)) hown (mvT hZ (hw _ (List.mem_of_getElem? (i := 44) rfl))) (mvT hZ (hw _ (List.mem_of_getElem? (i := 45) rfl))) (mvT hZ (hw _ (List.mem_of_getElem? (i := 5) rfl))) (mvT hZ (hw _ (List.mem_of_getElem? (i := 46) rfl))) (by decide) (backOf (W := 0) (rm_sam l Z aT hw [] x1 x0 T826.heap n0 Z826) hZ (hw _ (List.mem_of_getElem? (i := 46) rfl)) (hw _ (List.mem_of_getElem? (i := 5) rfl)) (by decide) (by decide)) (g := (mkF m 169 #[.val (.int x0), .val (.int x1), .val (.int x2), .val (.int x3), .val (.int x4), .val (.ref b554), .val (.int (x4 &&& (3 : Int32))), .val (.int x1), .val (.int x0), .val (.ref b761), .unset, .unset, .unset] [(.int x0), (.int x1)])) rfl (by rw [hml]; rfl) (argsL := [(.int x1), (.int x0)]) (rest := []) (lenOf pd30 rfl) rfl (by show 2 * 0 + _ ≤ _; exact Nat.le_of_eq rfl) (hb hby at_169) (fun _ _ => ⟨rfl, eq834, (by decide : 34 + 0 ≤ _), (by decide : 188 + 0 ≤ _)⟩)
                dsimp only [Pt.U, Pt.locs, Pt.cells, Pt.slots] at X860 l860 y860 z860 st860 hQ860
                subst l860 y860 z860
                obtain ⟨rfl, N860q, eq860⟩ := hQ860
                have N860 := Fr.app N834 N860q
                refine own_go st860 ?_
                show own_Got p e below _ T860 (mkF m 172 #[.val (.int x0), .val (.int x1), .val (.int x2), .val (.int x3), .val (.int x4), .val (.ref b554), .val (.int (x4 &&& (3 : Int32))), .val (.int x1), .val (.int x0), .val (.ref b761), .unset, .unset, .unset] [(.int (F_sam x1 x0))])
                by_cases c861 : (F_sam x1 x0) = (0 : Int32)
                · refine g_ifT X860 hx hby at_172 ((if0 _ _).trans (teq c861).1) (by decide) (pc' := 179) (by decide) ?_
                  refine g_iconst X860 hx hby (0 : Int32) at_179 (by decide) (rfl : 179 + 1 = 180) ?_
                  refine g_istore X860 hx hby #[.val (.int x0), .val (.int x1), .val (.int x2), .val (.int x3), .val (.int x4), .val (.ref b554), .val (.int (x4 &&& (3 : Int32))), .val (.int x1), .val (.int x0), .val (.ref b761), .val (.int (0 : Int32)), .unset, .unset] at_180 rfl (rfl : 180 + 2 = 182) ?_
                  refine g_aload X860 hx hby at_182 rfl rfl (rfl : 182 + 2 = 184) ?_
                  refine g_astore X860 hx hby #[.val (.int x0), .val (.int x1), .val (.int x2), .val (.int x3), .val (.int x4), .val (.ref b554), .val (.int (x4 &&& (3 : Int32))), .val (.int x1), .val (.int x0), .val (.ref b761), .val (.int (0 : Int32)), .val (.ref b761), .unset] at_184 rfl rfl (rfl : 184 + 2 = 186) ?_
                  refine g_aload X860 hx hby at_186 rfl rfl (rfl : 186 + 2 = 188) ?_
                  refine g_astore X860 hx hby #[.val (.int x0), .val (.int x1), .val (.int x2), .val (.int x3), .val (.int x4), .val (.ref b554), .val (.int (x4 &&& (3 : Int32))), .val (.int x1), .val (.int x0), .val (.ref b761), .val (.int (0 : Int32)), .val (.ref b761), .val (.ref b554)] at_188 rfl rfl (rfl : 188 + 2 = 190) ?_
                  refine g_aload X860 hx hby at_190 rfl rfl (rfl : 190 + 2 = 192) ?_
                  refine g_aload X860 hx hby at_192 rfl rfl (rfl : 192 + 2 = 194) ?_
                  have f863 : Fld Z T826.heap b554 "com/example/forcon/forcon/model/Permission" "operation" "Ljava/lang/String;" (.ref os_558) := (Fld.keep (Fld.keep (Fld.keep (Fld.ext E761 q578_1) K775 nin0) K800 nin0) K826 (ninS ne766 nin0))
                  have f864 : Fld Z T826.heap b554 "com/example/forcon/forcon/model/Permission" "object" "Ljava/lang/String;" (.ref os_566) := (Fld.keep (Fld.keep (Fld.keep (Fld.ext E761 q578_2) K775 nin0) K800 nin0) K826 (ninS ne766 nin0))
                  have f865 : Exa Z T826.heap os_558 "java/lang/String" := (Exa.keep f818 K826)
                  have f866 : Fld Z T826.heap os_558 "java/lang/String" "coder" "B" (.int (0 : Int32)) := (Fld.keep (Fld.keep (Fld.keep (Fld.ext E761 (Fld.keep (Fld.keep q558_2 K566 nin0) K578 (ninS (Ne.symm ne561) nin0))) K775 nin0) K800 nin0) K826 (ninS ne767 nin0))
                  have f867 : Fld Z T826.heap os_558 "java/lang/String" "value" "[B" (.ref ob_558) := (Fld.keep (Fld.keep (Fld.keep (Fld.ext E761 (Fld.keep (Fld.keep q558_3 K566 nin0) K578 (ninS (Ne.symm ne561) nin0))) K775 nin0) K800 nin0) K826 (ninS ne767 nin0))
                  have f868 : Arv Z T826.heap ob_558 kb_558 .byte n_558 vs_558 (.int (0 : Int32)) := (Arv.keep f829 K826 (ninS ne768 nin0))
                  have f869 : Exa Z T826.heap os_566 "java/lang/String" := (Exa.keep f820 K826)
                  have f870 : Fld Z T826.heap os_566 "java/lang/String" "coder" "B" (.int (0 : Int32)) := (Fld.keep (Fld.keep (Fld.keep (Fld.ext E761 (Fld.keep q566_2 K578 (ninS (Ne.symm ne569) nin0))) K775 nin0) K800 nin0) K826 (ninS ne769 nin0))
                  have f871 : Fld Z T826.heap os_566 "java/lang/String" "value" "[B" (.ref ob_566) := (Fld.keep (Fld.keep (Fld.keep (Fld.ext E761 (Fld.keep q566_3 K578 (ninS (Ne.symm ne569) nin0))) K775 nin0) K800 nin0) K826 (ninS ne769 nin0))
                  have f872 : Arv Z T826.heap ob_566 kb_566 .byte n_566 vs_566 (.int (0 : Int32)) := (Arv.keep f830 K826 (ninS ne770 nin0))
                  have f873 : Exa Z T826.heap os_775 "java/lang/String" := (Exa.keep f824 K826)
                  have f874 : Fld Z T826.heap os_775 "java/lang/String" "coder" "B" (.int (0 : Int32)) := (Fld.keep (Fld.keep q775_2 K800 nin0) K826 (ninS (Ne.symm ne789) nin0))
                  have f875 : Fld Z T826.heap os_775 "java/lang/String" "value" "[B" (.ref ob_775) := (Fld.keep (Fld.keep q775_3 K800 nin0) K826 (ninS (Ne.symm ne789) nin0))
                  have f876 : Arv Z T826.heap ob_775 kb_775 .byte n_775 vs_775 (.int (0 : Int32)) := (Arv.keep f831 K826 (ninS (Ne.symm ne797) nin0))
                  have f877 : Exa Z T826.heap os_800 "java/lang/String" := (Exa.keep q800_1 K826)
                  have f878 : Fld Z T826.heap os_800 "java/lang/String" "coder" "B" (.int (0 : Int32)) := (Fld.keep q800_2 K826 (ninS (Ne.symm ne811) nin0))
                  have f879 : Fld Z T826.heap os_800 "java/lang/String" "value" "[B" (.ref ob_800) := (Fld.keep q800_3 K826 (ninS (Ne.symm ne811) nin0))
                  have f880 : Arv Z T826.heap ob_800 kb_800 .byte n_800 vs_800 (.int (0 : Int32)) := (Arv.keep q800_4 K826 (ninS (Ne.symm ne821) nin0))
                  have f881 : Sta Z T826.heap "java/lang/String" "COMPACT_STRINGS" "Z" (.int g1) := (own_stakeep (own_stakeep0 f801 K800) K826 f822)
                  have f882 : Exa Z T826.heap b554 "com/example/forcon/forcon/model/Permission" := (Exa.keep f816 K826)
                  obtain ⟨cq862, kq862, q862a, q862b, q862c⟩ := isOf hZ eq860 f882
                  obtain ⟨_, _, ⟨T862, L862, k862, n862⟩, -, X862, ⟨Lc862, hQ862, l862, y862, z862⟩, st862⟩ := X860.virtualBack hx (y := (⟨"com/example/forcon/forcon/model/Permission", "equals", "(Ljava/lang/Object;)Z"⟩ : MethodName)) (z := (⟨"com/example/forcon/forcon/model/Permission", "equals", "(Ljava/lang/Object;)Z"⟩ : MethodName)) hown (mvT hZ (hw _ (List.mem_of_getElem? (i := 47) rfl))) (mvT hZ (hw _ (List.mem_of_getElem? (i := 48) rfl))) (notFace_of_selects (args := #[]) (mvT hZ (hw _ (List.mem_of_getElem? (i := 50) rfl)))) (mvT hZ (hw _ (List.mem_of_getElem? (i := 50) rfl))) (mvT hZ (hw _ (List.mem_of_getElem? (i := 49) rfl))) (by decide) (backOf (W := 0) (rm_peq l Z aT hw [] b554 b761 x0 x1 x1 x0 os_558 os_566 os_775 os_800 ob_558 kb_558 n_558 vs_558 ob_566 kb_566 n_566 vs_566 ob_775 kb_775 n_775 vs_775 ob_800 kb_800 n_800 vs_800 g1 T826.heap n0 Z826 q826_0 f863 f864 q826_1 q826_2 f865 f866 f867 f868 f869 f870 f871 f872 f873 f874 f875 f876 f877 f878 f879 f880 ne785 ne809 f881 hg1 q558_5 q566_5 q775_5 q800_5) hZ (hw _ (List.mem_of_getElem? (i := 51) rfl)) (hw _ (List.mem_of_getElem? (i := 2) rfl)) (by decide) (by decide)) q862a q862c (g := (mkF m 194 #[.val (.int x0), .val (.int x1), .val (.int x2), .val (.int x3), .val (.int x4), .val (.ref b554), .val (.int (x4 &&& (3 : Int32))), .val (.int x1), .val (.int x0), .val (.ref b761), .val (.int (0 : Int32)), .val (.ref b761), .val (.ref b554)] [(.ref b761), (.ref b554)])) rfl (by rw [hml]; rfl) (Steps.refl _) (argsL := [(.ref b761)]) (rest := []) (lenOf pd7 rfl) rfl (by show 2 * 0 + _ ≤ _; exact Nat.le_of_eq rfl) (hb hby at_194) (fun _ _ => ⟨rfl, eq860, (by decide : 34 + 0 ≤ _), (by decide : 188 + 0 ≤ _)⟩)
                  dsimp only [Pt.U, Pt.locs, Pt.cells, Pt.slots] at X862 l862 y862 z862 st862 hQ862
                  subst l862 y862 z862
                  obtain ⟨rfl, N862q, eq862⟩ := hQ862
                  have N862 := Fr.app N860 N862q
                  refine own_tr st862 ?_
                  show own_Got p e below _ T862 (mkF m 197 #[.val (.int x0), .val (.int x1), .val (.int x2), .val (.int x3), .val (.int x4), .val (.ref b554), .val (.int (x4 &&& (3 : Int32))), .val (.int x1), .val (.int x0), .val (.ref b761), .val (.int (0 : Int32)), .val (.ref b761), .val (.ref b554)] [(.int (F_peq x0 x1 x1 x0))])
                  refine g_iload X862 hx hby at_197 rfl (rfl : 197 + 2 = 199) ?_
                  have c883 : (F_peq x0 x1 x1 x0) = (0 : Int32) := ((own_peq x0 x1 x1 x0).trans (by rw [if_neg c835, if_pos c861]))
                  refine g_icF X862 hx hby at_199 (teq c883).2 (rfl : 199 + 3 = 202) ?_
                  refine g_aload X862 hx hby at_202 rfl rfl (rfl : 202 + 2 = 204) ?_
                  refine g_aload X862 hx hby at_204 rfl rfl (rfl : 204 + 2 = 206) ?_
                  obtain ⟨cq884, kq884, q884a, q884b, q884c⟩ := isOf hZ eq862 q826_0
                  obtain ⟨_, _, ⟨T884, L884, k884, n884⟩, -, X884, ⟨Lc884, hQ884, l884, y884, z884⟩, st884⟩ := X862.virtualBack hx (y := (⟨"com/example/forcon/forcon/model/Permission", "equals", "(Ljava/lang/Object;)Z"⟩ : MethodName)) (z := (⟨"com/example/forcon/forcon/model/Permission", "equals", "(Ljava/lang/Object;)Z"⟩ : MethodName)) hown (mvT hZ (hw _ (List.mem_of_getElem? (i := 47) rfl))) (mvT hZ (hw _ (List.mem_of_getElem? (i := 48) rfl))) (notFace_of_selects (args := #[]) (mvT hZ (hw _ (List.mem_of_getElem? (i := 50) rfl)))) (mvT hZ (hw _ (List.mem_of_getElem? (i := 50) rfl))) (mvT hZ (hw _ (List.mem_of_getElem? (i := 49) rfl))) (by decide) (backOf (W := 0) (rm_peq l Z aT hw [] b761 b554 _ x0 x0 x1 os_775 os_800 os_558 os_566 ob_775 kb_775 n_775 vs_775 ob_800 kb_800 n_800 vs_800 ob_558 kb_558 n_558 vs_558 ob_566 kb_566 n_566 vs_566 g1 T826.heap n0 Z826 f882 q826_1 q826_2 f863 f864 f873 f874 f875 f876 f877 f878 f879 f880 f865 f866 f867 f868 f869 f870 f871 f872 (Ne.symm ne785) (Ne.symm ne809) f881 hg1 q775_5 q800_5 q558_5 q566_5) hZ (hw _ (List.mem_of_getElem? (i := 51) rfl)) (hw _ (List.mem_of_getElem? (i := 2) rfl)) (by decide) (by decide)) q884a q884c (g := (mkF m 206 #[.val (.int x0), .val (.int x1), .val (.int x2), .val (.int x3), .val (.int x4), .val (.ref b554), .val (.int (x4 &&& (3 : Int32))), .val (.int x1), .val (.int x0), .val (.ref b761), .val (.int (0 : Int32)), .val (.ref b761), .val (.ref b554)] [(.ref b554), (.ref b761)])) rfl (by rw [hml]; rfl) (Steps.refl _) (argsL := [(.ref b554)]) (rest := []) (lenOf pd7 rfl) rfl (by show 2 * 0 + _ ≤ _; exact Nat.le_of_eq rfl) (hb hby at_206) (fun _ _ => ⟨rfl, eq862, (by decide : 34 + 0 ≤ _), (by decide : 188 + 0 ≤ _)⟩)
                  dsimp only [Pt.U, Pt.locs, Pt.cells, Pt.slots] at X884 l884 y884 z884 st884 hQ884
                  subst l884 y884 z884
                  obtain ⟨rfl, N884q, eq884⟩ := hQ884
                  have N884 := Fr.app N862 N884q
                  refine own_tr st884 ?_
                  show own_Got p e below _ T884 (mkF m 209 #[.val (.int x0), .val (.int x1), .val (.int x2), .val (.int x3), .val (.int x4), .val (.ref b554), .val (.int (x4 &&& (3 : Int32))), .val (.int x1), .val (.int x0), .val (.ref b761), .val (.int (0 : Int32)), .val (.ref b761), .val (.ref b554)] [(.int (F_peq x1 x0 x0 x1))])
                  refine g_iload X884 hx hby at_209 rfl (rfl : 209 + 2 = 211) ?_
                  have c885 : (F_peq x1 x0 x0 x1) = (0 : Int32) := ((own_peqS x0 x1 x1 x0).trans (by rw [if_neg c835, if_pos c861]))
                  refine g_icF X884 hx hby at_211 (teq c885).2 (rfl : 211 + 3 = 214) ?_
                  refine g_iconst X884 hx hby (1 : Int32) at_214 (by decide) (rfl : 214 + 1 = 215) ?_
                  refine g_goto X884 hx hby at_215 (by decide) (pc' := 219) (by decide) ?_
                  subst hPP
                  refine own_retNW X884 hx hby hS hkk hZ hEL eq884 CR826 hlk (t := .boolean) hrt (by simp) at_219 (by decide) (by decide) ?_
                  show Q_law Z x0 x1 x2 x3 x4 g1 h0 n0 _ T884.heap _
                  exact ⟨rfl, N884⟩
                · refine g_ifF X860 hx hby at_172 ((if0 _ _).trans (feq c861).1) (rfl : 172 + 3 = 175) ?_
                  refine g_iconst X860 hx hby (1 : Int32) at_175 (by decide) (rfl : 175 + 1 = 176) ?_
                  refine g_goto X860 hx hby at_176 (by decide) (pc' := 180) (by decide) ?_
                  refine g_istore X860 hx hby #[.val (.int x0), .val (.int x1), .val (.int x2), .val (.int x3), .val (.int x4), .val (.ref b554), .val (.int (x4 &&& (3 : Int32))), .val (.int x1), .val (.int x0), .val (.ref b761), .val (.int (1 : Int32)), .unset, .unset] at_180 rfl (rfl : 180 + 2 = 182) ?_
                  refine g_aload X860 hx hby at_182 rfl rfl (rfl : 182 + 2 = 184) ?_
                  refine g_astore X860 hx hby #[.val (.int x0), .val (.int x1), .val (.int x2), .val (.int x3), .val (.int x4), .val (.ref b554), .val (.int (x4 &&& (3 : Int32))), .val (.int x1), .val (.int x0), .val (.ref b761), .val (.int (1 : Int32)), .val (.ref b761), .unset] at_184 rfl rfl (rfl : 184 + 2 = 186) ?_
                  refine g_aload X860 hx hby at_186 rfl rfl (rfl : 186 + 2 = 188) ?_
                  refine g_astore X860 hx hby #[.val (.int x0), .val (.int x1), .val (.int x2), .val (.int x3), .val (.int x4), .val (.ref b554), .val (.int (x4 &&& (3 : Int32))), .val (.int x1), .val (.int x0), .val (.ref b761), .val (.int (1 : Int32)), .val (.ref b761), .val (.ref b554)] at_188 rfl rfl (rfl : 188 + 2 = 190) ?_
                  refine g_aload X860 hx hby at_190 rfl rfl (rfl : 190 + 2 = 192) ?_
                  refine g_aload X860 hx hby at_192 rfl rfl (rfl : 192 + 2 = 194) ?_
                  have f887 : Fld Z T826.heap b554 "com/example/forcon/forcon/model/Permission" "operation" "Ljava/lang/String;" (.ref os_558) := (Fld.keep (Fld.keep (Fld.keep (Fld.ext E761 q578_1) K775 nin0) K800 nin0) K826 (ninS ne766 nin0))
                  have f888 : Fld Z T826.heap b554 "com/example/forcon/forcon/model/Permission" "object" "Ljava/lang/String;" (.ref os_566) := (Fld.keep (Fld.keep (Fld.keep (Fld.ext E761 q578_2) K775 nin0) K800 nin0) K826 (ninS ne766 nin0))
                  have f889 : Exa Z T826.heap os_558 "java/lang/String" := (Exa.keep f818 K826)
                  have f890 : Fld Z T826.heap os_558 "java/lang/String" "coder" "B" (.int (0 : Int32)) := (Fld.keep (Fld.keep (Fld.keep (Fld.ext E761 (Fld.keep (Fld.keep q558_2 K566 nin0) K578 (ninS (Ne.symm ne561) nin0))) K775 nin0) K800 nin0) K826 (ninS ne767 nin0))
                  have f891 : Fld Z T826.heap os_558 "java/lang/String" "value" "[B" (.ref ob_558) := (Fld.keep (Fld.keep (Fld.keep (Fld.ext E761 (Fld.keep (Fld.keep q558_3 K566 nin0) K578 (ninS (Ne.symm ne561) nin0))) K775 nin0) K800 nin0) K826 (ninS ne767 nin0))
                  have f892 : Arv Z T826.heap ob_558 kb_558 .byte n_558 vs_558 (.int (0 : Int32)) := (Arv.keep f829 K826 (ninS ne768 nin0))
                  have f893 : Exa Z T826.heap os_566 "java/lang/String" := (Exa.keep f820 K826)
                  have f894 : Fld Z T826.heap os_566 "java/lang/String" "coder" "B" (.int (0 : Int32)) := (Fld.keep (Fld.keep (Fld.keep (Fld.ext E761 (Fld.keep q566_2 K578 (ninS (Ne.symm ne569) nin0))) K775 nin0) K800 nin0) K826 (ninS ne769 nin0))
                  have f895 : Fld Z T826.heap os_566 "java/lang/String" "value" "[B" (.ref ob_566) := (Fld.keep (Fld.keep (Fld.keep (Fld.ext E761 (Fld.keep q566_3 K578 (ninS (Ne.symm ne569) nin0))) K775 nin0) K800 nin0) K826 (ninS ne769 nin0))
                  have f896 : Arv Z T826.heap ob_566 kb_566 .byte n_566 vs_566 (.int (0 : Int32)) := (Arv.keep f830 K826 (ninS ne770 nin0))
                  have f897 : Exa Z T826.heap os_775 "java/lang/String" := (Exa.keep f824 K826)
                  have f898 : Fld Z T826.heap os_775 "java/lang/String" "coder" "B" (.int (0 : Int32)) := (Fld.keep (Fld.keep q775_2 K800 nin0) K826 (ninS (Ne.symm ne789) nin0))
                  have f899 : Fld Z T826.heap os_775 "java/lang/String" "value" "[B" (.ref ob_775) := (Fld.keep (Fld.keep q775_3 K800 nin0) K826 (ninS (Ne.symm ne789) nin0))
                  have f900 : Arv Z T826.heap ob_775 kb_775 .byte n_775 vs_775 (.int (0 : Int32)) := (Arv.keep f831 K826 (ninS (Ne.symm ne797) nin0))
                  have f901 : Exa Z T826.heap os_800 "java/lang/String" := (Exa.keep q800_1 K826)
                  have f902 : Fld Z T826.heap os_800 "java/lang/String" "coder" "B" (.int (0 : Int32)) := (Fld.keep q800_2 K826 (ninS (Ne.symm ne811) nin0))
                  have f903 : Fld Z T826.heap os_800 "java/lang/String" "value" "[B" (.ref ob_800) := (Fld.keep q800_3 K826 (ninS (Ne.symm ne811) nin0))
                  have f904 : Arv Z T826.heap ob_800 kb_800 .byte n_800 vs_800 (.int (0 : Int32)) := (Arv.keep q800_4 K826 (ninS (Ne.symm ne821) nin0))
                  have f905 : Sta Z T826.heap "java/lang/String" "COMPACT_STRINGS" "Z" (.int g1) := (own_stakeep (own_stakeep0 f801 K800) K826 f822)
                  have f906 : Exa Z T826.heap b554 "com/example/forcon/forcon/model/Permission" := (Exa.keep f816 K826)
                  obtain ⟨cq886, kq886, q886a, q886b, q886c⟩ := isOf hZ eq860 f906
                  obtain ⟨_, _, ⟨T886, L886, k886, n886⟩, -, X886, ⟨Lc886, hQ886, l886, y886, z886⟩, st886⟩ := X860.virtualBack hx (y := (⟨"com/example/forcon/forcon/model/Permission", "equals", "(Ljava/lang/Object;)Z"⟩ : MethodName)) (z := (⟨"com/example/forcon/forcon/model/Permission", "equals", "(Ljava/lang/Object;)Z"⟩ : MethodName)) hown (mvT hZ (hw _ (List.mem_of_getElem? (i := 47) rfl))) (mvT hZ (hw _ (List.mem_of_getElem? (i := 48) rfl))) (notFace_of_selects (args := #[]) (mvT hZ (hw _ (List.mem_of_getElem? (i := 50) rfl)))) (mvT hZ (hw _ (List.mem_of_getElem? (i := 50) rfl))) (mvT hZ (hw _ (List.mem_of_getElem? (i := 49) rfl))) (by decide) (backOf (W := 0) (rm_peq l Z aT hw [] b554 b761 x0 x1 x1 x0 os_558 os_566 os_775 os_800 ob_558 kb_558 n_558 vs_558 ob_566 kb_566 n_566 vs_566 ob_775 kb_775 n_775 vs_775 ob_800 kb_800 n_800 vs_800 g1 T826.heap n0 Z826 q826_0 f887 f888 q826_1 q826_2 f889 f890 f891 f892 f893 f894 f895 f896 f897 f898 f899 f900 f901 f902 f903 f904 ne785 ne809 f905 hg1 q558_5 q566_5 q775_5 q800_5) hZ (hw _ (List.mem_of_getElem? (i := 51) rfl)) (hw _ (List.mem_of_getElem? (i := 2) rfl)) (by decide) (by decide)) q886a q886c (g := (mkF m 194 #[.val (.int x0), .val (.int x1), .val (.int x2), .val (.int x3), .val (.int x4), .val (.ref b554), .val (.int (x4 &&& (3 : Int32))), .val (.int x1), .val (.int x0), .val (.ref b761), .val (.int (1 : Int32)), .val (.ref b761), .val (.ref b554)] [(.ref b761), (.ref b554)])) rfl (by rw [hml]; rfl) (Steps.refl _) (argsL := [(.ref b761)]) (rest := []) (lenOf pd7 rfl) rfl (by show 2 * 0 + _ ≤ _; exact Nat.le_of_eq rfl) (hb hby at_194) (fun _ _ => ⟨rfl, eq860, (by decide : 34 + 0 ≤ _), (by decide : 188 + 0 ≤ _)⟩)
                  dsimp only [Pt.U, Pt.locs, Pt.cells, Pt.slots] at X886 l886 y886 z886 st886 hQ886
                  subst l886 y886 z886
                  obtain ⟨rfl, N886q, eq886⟩ := hQ886
                  have N886 := Fr.app N860 N886q
                  refine own_tr st886 ?_
                  show own_Got p e below _ T886 (mkF m 197 #[.val (.int x0), .val (.int x1), .val (.int x2), .val (.int x3), .val (.int x4), .val (.ref b554), .val (.int (x4 &&& (3 : Int32))), .val (.int x1), .val (.int x0), .val (.ref b761), .val (.int (1 : Int32)), .val (.ref b761), .val (.ref b554)] [(.int (F_peq x0 x1 x1 x0))])
                  refine g_iload X886 hx hby at_197 rfl (rfl : 197 + 2 = 199) ?_
                  have c907 : (F_peq x0 x1 x1 x0) = (1 : Int32) := ((own_peq x0 x1 x1 x0).trans (by rw [if_neg c835, if_neg c861]))
                  refine g_icF X886 hx hby at_199 (teq c907).2 (rfl : 199 + 3 = 202) ?_
                  refine g_aload X886 hx hby at_202 rfl rfl (rfl : 202 + 2 = 204) ?_
                  refine g_aload X886 hx hby at_204 rfl rfl (rfl : 204 + 2 = 206) ?_
                  obtain ⟨cq908, kq908, q908a, q908b, q908c⟩ := isOf hZ eq886 q826_0
                  obtain ⟨_, _, ⟨T908, L908, k908, n908⟩, -, X908, ⟨Lc908, hQ908, l908, y908, z908⟩, st908⟩ := X886.virtualBack hx (y := (⟨"com/example/forcon/forcon/model/Permission", "equals", "(Ljava/lang/Object;)Z"⟩ : MethodName)) (z := (⟨"com/example/forcon/forcon/model/Permission", "equals", "(Ljava/lang/Object;)Z"⟩ : MethodName)) hown (mvT hZ (hw _ (List.mem_of_getElem? (i := 47) rfl))) (mvT hZ (hw _ (List.mem_of_getElem? (i := 48) rfl))) (notFace_of_selects (args := #[]) (mvT hZ (hw _ (List.mem_of_getElem? (i := 50) rfl)))) (mvT hZ (hw _ (List.mem_of_getElem? (i := 50) rfl))) (mvT hZ (hw _ (List.mem_of_getElem? (i := 49) rfl))) (by decide) (backOf (W := 0) (rm_peq l Z aT hw [] b761 b554 _ x0 x0 x1 os_775 os_800 os_558 os_566 ob_775 kb_775 n_775 vs_775 ob_800 kb_800 n_800 vs_800 ob_558 kb_558 n_558 vs_558 ob_566 kb_566 n_566 vs_566 g1 T826.heap n0 Z826 f906 q826_1 q826_2 f887 f888 f897 f898 f899 f900 f901 f902 f903 f904 f889 f890 f891 f892 f893 f894 f895 f896 (Ne.symm ne785) (Ne.symm ne809) f905 hg1 q775_5 q800_5 q558_5 q566_5) hZ (hw _ (List.mem_of_getElem? (i := 51) rfl)) (hw _ (List.mem_of_getElem? (i := 2) rfl)) (by decide) (by decide)) q908a q908c (g := (mkF m 206 #[.val (.int x0), .val (.int x1), .val (.int x2), .val (.int x3), .val (.int x4), .val (.ref b554), .val (.int (x4 &&& (3 : Int32))), .val (.int x1), .val (.int x0), .val (.ref b761), .val (.int (1 : Int32)), .val (.ref b761), .val (.ref b554)] [(.ref b554), (.ref b761)])) rfl (by rw [hml]; rfl) (Steps.refl _) (argsL := [(.ref b554)]) (rest := []) (lenOf pd7 rfl) rfl (by show 2 * 0 + _ ≤ _; exact Nat.le_of_eq rfl) (hb hby at_206) (fun _ _ => ⟨rfl, eq886, (by decide : 34 + 0 ≤ _), (by decide : 188 + 0 ≤ _)⟩)
                  dsimp only [Pt.U, Pt.locs, Pt.cells, Pt.slots] at X908 l908 y908 z908 st908 hQ908
                  subst l908 y908 z908
                  obtain ⟨rfl, N908q, eq908⟩ := hQ908
                  have N908 := Fr.app N886 N908q
                  refine own_tr st908 ?_
                  show own_Got p e below _ T908 (mkF m 209 #[.val (.int x0), .val (.int x1), .val (.int x2), .val (.int x3), .val (.int x4), .val (.ref b554), .val (.int (x4 &&& (3 : Int32))), .val (.int x1), .val (.int x0), .val (.ref b761), .val (.int (1 : Int32)), .val (.ref b761), .val (.ref b554)] [(.int (F_peq x1 x0 x0 x1))])
                  refine g_iload X908 hx hby at_209 rfl (rfl : 209 + 2 = 211) ?_
                  have c909 : (F_peq x1 x0 x0 x1) = (1 : Int32) := ((own_peqS x0 x1 x1 x0).trans (by rw [if_neg c835, if_neg c861]))
                  refine g_icF X908 hx hby at_211 (teq c909).2 (rfl : 211 + 3 = 214) ?_
                  refine g_iconst X908 hx hby (1 : Int32) at_214 (by decide) (rfl : 214 + 1 = 215) ?_
                  refine g_goto X908 hx hby at_215 (by decide) (pc' := 219) (by decide) ?_
                  subst hPP
                  refine own_retNW X908 hx hby hS hkk hZ hEL eq908 CR826 hlk (t := .boolean) hrt (by simp) at_219 (by decide) (by decide) ?_
                  show Q_law Z x0 x1 x2 x3 x4 g1 h0 n0 _ T908.heap _
                  exact ⟨rfl, N908⟩
          refine g_iload X578 hx hby at_109 rfl (rfl : 109 + 2 = 111) ?_
          refine g_bipush X578 hx hby (8 : Int32) at_111 (by decide) (rfl : 111 + 2 = 113) ?_
          refine g_iand X578 hx hby at_113 (rfl : 113 + 1 = 114) ?_
          by_cases c910 : (x4 &&& (8 : Int32)) = (0 : Int32)
          · refine g_ifT X578 hx hby at_114 ((if0 _ _).trans (teq c910).1) (by decide) (pc' := 121) (by decide) ?_
            refine g_iloadN X578 hx hby at_121 rfl (rfl : 121 + 1 = 122) ?_
            have q : (if (x4 &&& (8 : Int32)) = (0 : Int32) then (x1) else (x3)) = x1 := by rw [if_pos c910]
            rw [q] at j610
            exact j610
          · refine g_ifF X578 hx hby at_114 ((if0 _ _).trans (feq c910).1) (rfl : 114 + 3 = 117) ?_
            refine g_iloadN X578 hx hby at_117 rfl (rfl : 117 + 1 = 118) ?_
            refine g_goto X578 hx hby at_118 (by decide) (pc' := 122) (by decide) ?_
            have q : (if (x4 &&& (8 : Int32)) = (0 : Int32) then (x1) else (x3)) = x3 := by rw [if_neg c910]
            rw [q] at j610
            exact j610
        refine g_iload X578 hx hby at_95 rfl (rfl : 95 + 2 = 97) ?_
        refine g_iconst X578 hx hby (4 : Int32) at_97 (by decide) (rfl : 97 + 1 = 98) ?_
        refine g_iand X578 hx hby at_98 (rfl : 98 + 1 = 99) ?_
        by_cases c911 : (x4 &&& (4 : Int32)) = (0 : Int32)
        · refine g_ifT X578 hx hby at_99 ((if0 _ _).trans (teq c911).1) (by decide) (pc' := 106) (by decide) ?_
          refine g_iloadN X578 hx hby at_106 rfl (rfl : 106 + 1 = 107) ?_
          have q : (if (x4 &&& (4 : Int32)) = (0 : Int32) then (x0) else (x2)) = x0 := by rw [if_pos c911]
          rw [q] at j609
          exact j609
        · refine g_ifF X578 hx hby at_99 ((if0 _ _).trans (feq c911).1) (rfl : 99 + 3 = 102) ?_
          refine g_iloadN X578 hx hby at_102 rfl (rfl : 102 + 1 = 103) ?_
          refine g_goto X578 hx hby at_103 (by decide) (pc' := 107) (by decide) ?_
          have q : (if (x4 &&& (4 : Int32)) = (0 : Int32) then (x0) else (x2)) = x2 := by rw [if_neg c911]
          rw [q] at j609
          exact j609
set_option maxRecDepth 65536 in
set_option maxHeartbeats 40000000 in
theorem comes_1 {Post : Tables → Env → Array Value → State → Outcome → State → Prop} (hpost : ∀ tb e args s v u, (limb_1_1.after args s (.returned v) u = true ∧ limb_1_2.after args s (.returned v) u = true ∧ True) → ReturnedEndW s (.returned v) u (Jvm.fieldLocs frame_1_writes args s ++ Jvm.arrayLocs frame_1_arrays args s ++ Jvm.staticLocs frame_1_statics s) 48 3264 → Post tb e args s (.returned v) u) :
    ArmFor flags0 classFile x code maxLocals ret World_1 tables_1 room_1 Calls_1 rest_1 Pre_1 Post := by
  intro l hfl _ _ p e ha hc hk s m args below hf hA hF happ hP
  obtain ⟨hcalls, hrest, hpre⟩ := hP
  obtain ⟨-, -, -, hnamed, -, -, -, hat⟩ := (Spec.applies_iff hf).mp happ
  obtain ⟨hg, hn⟩ := and_e (Cond.before_iff.mp (show (Jvm.Cond.and given_1 narrow_1).before args s = true from hpre))
  obtain ⟨hcnt, hg0⟩ := and_e hg
  obtain ⟨ha0, hg1⟩ := and_e hg0
  obtain ⟨ha1, hg2⟩ := and_e hg1
  obtain ⟨ha2, hg3⟩ := and_e hg2
  obtain ⟨ha3, hg4⟩ := and_e hg3
  obtain ⟨w0, w1, w2, w3, w4, rfl⟩ : ∃ w0 w1 w2 w3 w4 : Value, args = #[w0, w1, w2, w3, w4] := by
    have hs : args.size = 5 := by simpa [Cond.value, given_1] using hcnt
    obtain ⟨L⟩ := args
    match L, hs with
    | [w0, w1, w2, w3, w4], _ => exact ⟨w0, w1, w2, w3, w4, rfl⟩
  have hw := fun d (hd : d ∈ tables_1) => atoms_spec (ws := Jvm.Cond.code x code maxLocals ret :: tables_1) hat d (List.mem_cons_of_mem _ hd)
  have hfit : Fit s := fun {y c} hc i hi => by
    obtain ⟨ha, rfl⟩ := Array.getElem?_eq_some_iff.mp hc
    have q := List.all_eq_true.mp ((Array.all_eq_true_iff_forall_mem.mp hF) _ (Array.getElem_mem ha)) i (List.mem_range.mpr hi)
    simpa [Array.getElem?_eq_getElem hi] using q
  obtain ⟨i0, ei0⟩ := is_v ha0
  obtain rfl : w0 = (.int i0) := Option.some.inj ei0
  obtain ⟨i1, ei1⟩ := is_v ha1
  obtain rfl : w1 = (.int i1) := Option.some.inj ei1
  obtain ⟨i2, ei2⟩ := is_v ha2
  obtain rfl : w2 = (.int i2) := Option.some.inj ei2
  obtain ⟨i3, ei3⟩ := is_v ha3
  obtain rfl : w3 = (.int i3) := Option.some.inj ei3
  obtain ⟨i4, ei4⟩ := is_v hg4
  obtain rfl : w4 = (.int i4) := Option.some.inj ei4
  obtain ⟨hsets, hown0⟩ := atoms_of _ (rest_1_c_eq ▸ (show rest_1_c.before _ s = true from hrest))
  obtain ⟨G1, evG1⟩ := is_v (Cond.before_iff.mp (hsets _ (List.mem_of_getElem? (i := 1) rfl)))
  have SG1 := Sta.start evG1 (Or.inl (hsets _ (List.mem_of_getElem? (i := 0) rfl)))
  have NG1 : ¬ (G1 = (0 : Int32)) := gotF (Cond.eq_ints evG1 rfl) (not_v (Cond.before_iff.mp (hsets _ (List.mem_of_getElem? (i := 2) rfl))))
  have CH0 : CHv s consts_1 s.vm s.heap := CHv.start (own_EL hw) (fun q hq => hcalls.1 q hq) (hsets _ (List.mem_of_getElem? (i := 2) rfl)) (hw _ (List.mem_of_getElem? (i := 22) rfl)) (hw _ (List.mem_of_getElem? (i := 8) rfl))
  obtain ⟨n, o, h1, h2, h3, _, L, rfl, ⟨hv, N⟩, -, hq⟩ := rm_law l s _ hw tables_1 i0 i1 i2 i3 i4 G1 s.heap s.heap.size (Nat.le_refl _) SG1 NG1 p e ha hc hk s m _ below hf ((Spec.applies_iff_loose hf).mp happ).1 ⟨rfl, State.Warmed39.refl s, rfl, CH0⟩ trivial
  subst hv
  refine ⟨n, _, h1, h2, h3, hpost _ _ _ _ _ _ ⟨Cond.after_iff.mpr rfl, Cond.after_iff.mpr (eq_i res_at (Term.int_eval (1)) rfl), trivial⟩ ⟨hq.1, hq.2.1, hq.2.2.1, (hq.2.2.2.sift fun y hy => Or.inr (N y hy)).mono (by decide) (by decide)⟩⟩
theorem main_1_1 : Claimed_1_1 := comes_1 fun _ _ _ _ _ _ h hF => ⟨h.1, hF⟩
theorem main_1_2 : Claimed_1_2 := comes_1 fun _ _ _ _ _ _ h hF => ⟨h.2.1, hF⟩
end Jvm.Pilot.@@N@@
namespace Jvm.Pilot.@@N@@
open Jvm Jvm.ClassFile Sem Op Lib Jvm.Free Jvm.Stand Jvm.Pilot.@@N@@.Jvm.D
/-! MADE BY PROGRAM (witnessworld.py) out of the Statement's table words and the real class files: 27 classes; the members and pool entries that the words name. The judged class is class 1, her method 1. -/
namespace start1
open Jvm.ClassFile
def u (s : String) : CpInfo := .utf8 (stringToUtf16 s)
/-- a pool by its gaps: so many unusable entries, then the entry; so many at the end -/
def gap : Nat → List CpInfo → List CpInfo
  | 0, r => r
  | n + 1, r => .unusable :: gap n r
def poolList (es : List (Nat × CpInfo)) (last : Nat) : List CpInfo := es.foldr (fun e r => gap e.1 (e.2 :: r)) (gap last [])
def pool (es : List (Nat × CpInfo)) (last : Nat) : Array CpInfo := ⟨poolList es last⟩
def fileOf (pool : Array CpInfo) (this : Nat) (attrs : Array Attribute := #[]) (ms : Array MethodInfo := #[]) (fl : Nat := 33) (sup : Nat := 0) (ifs : Array Nat := #[]) (fds : Array FieldInfo := #[]) : ClassFile where
  minorVersion := 0
  majorVersion := 65
  constantPool := pool
  accessFlags := fl
  thisClass := this
  superClass := sup
  interfaces := ifs
  fields := fds
  methods := ms
  attributes := attrs
def plain (name : String) (sup : Option ClassId) : Class where
  name := name
  kind := .ordinary
  loader := none
  accessFlags := 33
  super := sup
  interfaces := #[]
  cf := none
  fields := #[]
  methods := #[]
  instanceTypes := #[]
  staticTypes := #[]
  resolved := #[]
  callSites := []
  init := .initialized
  statics := none
  mirror := none

def pool0 : Array CpInfo := pool [(5, u "<init>"), (0, u "()V"), (1, .class_ 10), (1, u "java/lang/Object")] 113

def k0c0 : Code := { maxStack := 0, maxLocals := 1, code := object_method_1_code, exceptionTable := #[], attributes := #[] }
def k0m0 : Method := { name := "<init>", desc := "()V", sig := { parameters := [], returnType := none }, accessFlags := 1, code := some k0c0 }
/-- java/lang/Object -/
def k0 : Class := { plain "java/lang/Object" none with
  accessFlags := 33
  interfaces := #[]
  cf := some (fileOf pool0 8 #[] #[{ accessFlags := 1, nameIndex := 5, descriptorIndex := 6, attributes := #[] }] 33 0 #[] #[])
  fields := #[]
  methods := #[k0m0]
  instanceTypes := #[]
  staticTypes := #[]
  resolved := Array.replicate 124 none
  statics := none }

def pool1 : Array CpInfo := pool [(2, .class_ 4), (1, u "java/lang/Object"), (0, u "<init>"), (0, u "()V"), (0, .class_ 8), (0, u "com/example/forcon/forcon/model/Permission"), (0, .methodref 10 11), (0, .class_ 12), (0, .nameAndType 13 14), (0, u "com/example/forcon/forcon/model/PermissionEqualsPinLaw"), (0, u "str"), (0, u "(I)Ljava/lang/String;"), (0, .methodref 7 16), (0, .nameAndType 5 17), (0, u "(Ljava/lang/String;Ljava/lang/String;)V"), (0, .methodref 7 19), (0, .nameAndType 20 21), (0, u "equals"), (0, u "(Ljava/lang/Object;)Z"), (0, .methodref 7 23), (0, .nameAndType 24 25), (0, u "toString"), (0, u "()Ljava/lang/String;"), (0, .methodref 10 27), (0, .nameAndType 28 29), (0, u "same"), (0, u "(II)Z"), (0, .class_ 31), (0, u "java/lang/String"), (0, .methodref 30 33), (0, .nameAndType 5 34), (0, u "([C)V"), (2, u "law"), (0, u "(IIIII)Z")] 3

def k1m0 : Method := { name := "<init>", desc := "()V", sig := { parameters := [], returnType := none }, accessFlags := 2, code := none }
def k1c1 : Code := { maxStack := 4, maxLocals := 13, code := code, exceptionTable := #[], attributes := #[] }
def k1m1 : Method := { name := "law", desc := "(IIIII)Z", sig := { parameters := [.int, .int, .int, .int, .int], returnType := some .boolean }, accessFlags := 9, code := some k1c1 }
def k1c2 : Code := { maxStack := 6, maxLocals := 5, code := method_3_code, exceptionTable := #[], attributes := #[] }
def k1m2 : Method := { name := "str", desc := "(I)Ljava/lang/String;", sig := { parameters := [.int], returnType := some (.object "java/lang/String") }, accessFlags := 10, code := some k1c2 }
def k1c3 : Code := { maxStack := 3, maxLocals := 4, code := method_4_code, exceptionTable := #[], attributes := #[] }
def k1m3 : Method := { name := "same", desc := "(II)Z", sig := { parameters := [.int, .int], returnType := some .boolean }, accessFlags := 10, code := some k1c3 }
/-- com/example/forcon/forcon/model/PermissionEqualsPinLaw -/
def k1 : Class := { plain "com/example/forcon/forcon/model/PermissionEqualsPinLaw" (some 0) with
  accessFlags := 49
  interfaces := #[]
  cf := some (fileOf pool1 10 #[] #[{ accessFlags := 2, nameIndex := 5, descriptorIndex := 6, attributes := #[] }, { accessFlags := 9, nameIndex := 37, descriptorIndex := 38, attributes := #[] }, { accessFlags := 10, nameIndex := 13, descriptorIndex := 14, attributes := #[] }, { accessFlags := 10, nameIndex := 28, descriptorIndex := 29, attributes := #[] }] 49 2 #[] #[])
  fields := #[]
  methods := #[k1m0, k1m1, k1m2, k1m3]
  instanceTypes := #[]
  staticTypes := #[]
  resolved := Array.replicate 42 none
  statics := none }

def pool2 : Array CpInfo := pool [(1, .class_ 2), (0, u "java/lang/Comparable"), (0, .class_ 4), (0, u "java/lang/Object")] 7

/-- java/lang/Comparable -/
def k2 : Class := { plain "java/lang/Comparable" (some 0) with
  accessFlags := 1537
  interfaces := #[]
  cf := some (fileOf pool2 1 #[] #[] 1537 3 #[] #[])
  fields := #[]
  methods := #[]
  instanceTypes := #[]
  staticTypes := #[]
  resolved := Array.replicate 12 none
  statics := none }

def pool3 : Array CpInfo := pool [(1, .methodref 2 3), (0, .class_ 4), (0, .nameAndType 5 6), (0, u "java/lang/Object"), (0, u "<init>"), (0, u "()V"), (0, .string 8), (0, u "operation"), (0, .methodref 10 11), (0, .class_ 12), (0, .nameAndType 13 14), (0, u "java/util/Objects"), (0, u "requireNonNull"), (0, u "(Ljava/lang/Object;Ljava/lang/String;)Ljava/lang/Object;"), (0, .class_ 16), (0, u "java/lang/String"), (0, .fieldref 18 19), (0, .class_ 20), (0, .nameAndType 8 21), (0, u "com/example/forcon/forcon/model/Permission"), (0, u "Ljava/lang/String;"), (0, .string 23), (0, u "object"), (0, .fieldref 18 25), (0, .nameAndType 23 21), (13, u "(Ljava/lang/String;Ljava/lang/String;)V"), (16, .nameAndType 57 58), (0, u "toString"), (0, u "()Ljava/lang/String;"), (4, .methodref 15 64), (0, .nameAndType 65 66), (0, u "equals"), (0, u "(Ljava/lang/Object;)Z"), (4, .class_ 72), (0, u "java/lang/StringBuilder"), (0, .methodref 71 3), (0, .methodref 71 75), (0, .nameAndType 76 77), (0, u "append"), (0, u "(Ljava/lang/String;)Ljava/lang/StringBuilder;"), (0, .methodref 71 79), (0, .nameAndType 76 80), (0, u "(C)Ljava/lang/StringBuilder;"), (0, .methodref 71 56), (3, .class_ 86), (0, u "java/lang/Comparable"), (0, u "SEPARATOR"), (0, u "C")] 16

def k3c0 : Code := { maxStack := 3, maxLocals := 3, code := prog_59_method_1_code, exceptionTable := #[], attributes := #[] }
def k3m0 : Method := { name := "<init>", desc := "(Ljava/lang/String;Ljava/lang/String;)V", sig := { parameters := [(.object "java/lang/String"), (.object "java/lang/String")], returnType := none }, accessFlags := 1, code := some k3c0 }
def k3c1 : Code := { maxStack := 2, maxLocals := 3, code := prog_59_method_7_code, exceptionTable := #[], attributes := #[] }
def k3m1 : Method := { name := "equals", desc := "(Ljava/lang/Object;)Z", sig := { parameters := [(.object "java/lang/Object")], returnType := some .boolean }, accessFlags := 1, code := some k3c1 }
def k3c2 : Code := { maxStack := 2, maxLocals := 1, code := prog_59_method_9_code, exceptionTable := #[], attributes := #[] }
def k3m2 : Method := { name := "toString", desc := "()Ljava/lang/String;", sig := { parameters := [], returnType := some (.object "java/lang/String") }, accessFlags := 1, code := some k3c2 }
/-- com/example/forcon/forcon/model/Permission -/
def k3 : Class := { plain "com/example/forcon/forcon/model/Permission" (some 0) with
  accessFlags := 49
  interfaces := #[2]
  cf := some (fileOf pool3 18 #[] #[{ accessFlags := 1, nameIndex := 5, descriptorIndex := 39, attributes := #[] }, { accessFlags := 1, nameIndex := 65, descriptorIndex := 66, attributes := #[] }, { accessFlags := 1, nameIndex := 57, descriptorIndex := 58, attributes := #[] }] 49 2 #[85] #[{ accessFlags := 26, nameIndex := 87, descriptorIndex := 88, attributes := #[] }, { accessFlags := 18, nameIndex := 8, descriptorIndex := 21, attributes := #[] }, { accessFlags := 18, nameIndex := 23, descriptorIndex := 21, attributes := #[] }])
  fields := #[{ name := "SEPARATOR", type := .char, accessFlags := 26, slot := 0, constantValue := 0 }, { name := "operation", type := (.object "java/lang/String"), accessFlags := 18, slot := 0, constantValue := 0 }, { name := "object", type := (.object "java/lang/String"), accessFlags := 18, slot := 1, constantValue := 0 }]
  methods := #[k3m0, k3m1, k3m2]
  instanceTypes := #[(.object "java/lang/String"), (.object "java/lang/String")]
  staticTypes := #[.char]
  resolved := Array.replicate 105 none
  statics := none }

def pool4 : Array CpInfo := pool [(1, .class_ 2), (0, u "java/io/Serializable"), (0, .class_ 4), (0, u "java/lang/Object")] 2

/-- java/io/Serializable -/
def k4 : Class := { plain "java/io/Serializable" (some 0) with
  accessFlags := 1537
  interfaces := #[]
  cf := some (fileOf pool4 1 #[] #[] 1537 3 #[] #[])
  fields := #[]
  methods := #[]
  instanceTypes := #[]
  staticTypes := #[]
  resolved := Array.replicate 7 none
  statics := none }

def pool5 : Array CpInfo := pool [(2, .class_ 4), (1, u "java/lang/CharSequence"), (42, .class_ 48), (0, u "java/lang/CharSequence$1CodePointIterator"), (10, .class_ 60), (0, u "java/lang/CharSequence$1CharIterator"), (5, .class_ 67), (0, u "java/lang/Object")] 63

/-- java/lang/CharSequence -/
def k5 : Class := { plain "java/lang/CharSequence" (some 0) with
  accessFlags := 1537
  interfaces := #[]
  cf := some (fileOf pool5 2 #[.nestMembers #[47, 59]] #[] 1537 66 #[] #[])
  fields := #[]
  methods := #[]
  instanceTypes := #[]
  staticTypes := #[]
  resolved := Array.replicate 131 none
  statics := none }

def pool6 : Array CpInfo := pool [(1, .class_ 2), (0, u "java/lang/constant/Constable"), (0, .class_ 4), (0, u "java/lang/Object")] 6

/-- java/lang/constant/Constable -/
def k6 : Class := { plain "java/lang/constant/Constable" (some 0) with
  accessFlags := 1537
  interfaces := #[]
  cf := some (fileOf pool6 1 #[] #[] 1537 3 #[] #[])
  fields := #[]
  methods := #[]
  instanceTypes := #[]
  staticTypes := #[]
  resolved := Array.replicate 11 none
  statics := none }

def pool7 : Array CpInfo := pool [(1, .class_ 2), (0, u "java/lang/constant/ConstantDesc"), (0, .class_ 4), (0, u "java/lang/Object")] 32

/-- java/lang/constant/ConstantDesc -/
def k7 : Class := { plain "java/lang/constant/ConstantDesc" (some 0) with
  accessFlags := 1537
  interfaces := #[]
  cf := some (fileOf pool7 1 #[] #[] 1537 3 #[] #[])
  fields := #[]
  methods := #[]
  instanceTypes := #[]
  staticTypes := #[]
  resolved := Array.replicate 37 none
  statics := none }

def pool8 : Array CpInfo := pool [(1, .methodref 2 3), (0, .class_ 4), (0, .nameAndType 5 6), (0, u "java/lang/Object"), (0, u "<init>"), (0, u "()V"), (0, .string 8), (0, u ""), (0, .fieldref 10 11), (0, .class_ 12), (0, .nameAndType 13 14), (0, u "java/lang/String"), (0, u "value"), (0, u "[B"), (0, .fieldref 10 16), (0, .nameAndType 17 18), (0, u "coder"), (0, u "B"), (2, u "hash"), (0, u "I"), (2, u "hashIsZero"), (0, u "Z"), (0, .methodref 10 28), (0, .nameAndType 5 29), (0, u "([CIILjava/lang/Void;)V"), (8, .fieldref 10 39), (0, .nameAndType 40 26), (0, u "COMPACT_STRINGS"), (1, .class_ 44), (1, u "java/lang/StringUTF16"), (0, u "compress"), (1, .methodref 42 48), (0, .nameAndType 49 50), (0, u "coderFromArrayLen"), (0, u "([BI)B"), (3, .methodref 55 56), (0, .class_ 57), (0, .nameAndType 58 59), (0, u "java/util/Arrays"), (0, u "copyOfRange"), (0, u "([BII)[B"), (47, .class_ 109), (1, u "java/lang/StringLatin1"), (32, u "()Z"), (34, .methodref 42 178), (0, .nameAndType 45 179), (0, u "([CII)[B"), (13, .class_ 195), (1, u "java/lang/System"), (16, .methodref 193 213), (0, .nameAndType 214 215), (0, u "arraycopy"), (0, u "(Ljava/lang/Object;ILjava/lang/Object;II)V"), (118, u "()I"), (0, .methodref 10 336), (0, .nameAndType 17 337), (0, u "()B"), (2, u "()[B"), (148, .methodref 10 490), (0, .nameAndType 5 491), (0, u "(Ljava/lang/AbstractStringBuilder;Ljava/lang/Void;)V"), (1, .nameAndType 494 142), (0, u "isLatin1"), (11, .nameAndType 507 334), (0, u "length"), (24, u "getBytes"), (8, .methodref 107 542), (0, .nameAndType 543 544), (0, u "equals"), (0, u "([B[B)Z"), (4, .methodref 550 506), (0, .class_ 551), (0, u "java/lang/AbstractStringBuilder"), (0, .methodref 550 553), (0, .nameAndType 554 340), (0, u "getValue"), (18, u "(Ljava/lang/Object;)Z"), (1, .class_ 576), (0, u "java/lang/CharSequence"), (22, u "CASE_INSENSITIVE_ORDER"), (0, u "Ljava/util/Comparator;"), (220, u "([BIB)V"), (188, u "([C)V"), (36, .methodref 550 493), (53, u "serialPersistentFields"), (0, u "[Ljava/io/ObjectStreamField;"), (0, .class_ 1104), (0, u "java/lang/String$CaseInsensitiveComparator"), (1, .class_ 1107), (0, u "java/io/Serializable"), (0, .class_ 1109), (0, u "java/lang/Comparable"), (0, .class_ 1111), (0, u "java/lang/constant/Constable"), (0, .class_ 1113), (0, u "java/lang/constant/ConstantDesc"), (2, u "serialVersionUID"), (0, u "J"), (3, u "REPL"), (0, u "C"), (2, u "LATIN1"), (1, u "UTF16"), (105, u "(Ljava/lang/StringBuilder;)V")] 217

def k8m0 : Method := { name := "<init>", desc := "()V", sig := { parameters := [], returnType := none }, accessFlags := 1, code := none }
def k8c1 : Code := { maxStack := 5, maxLocals := 2, code := jdk_42_method_3_code, exceptionTable := #[], attributes := #[] }
def k8m1 : Method := { name := "<init>", desc := "([C)V", sig := { parameters := [(.array .char)], returnType := none }, accessFlags := 1, code := some k8c1 }
def k8c2 : Code := { maxStack := 3, maxLocals := 2, code := jdk_42_method_53_code, exceptionTable := #[], attributes := #[] }
def k8m2 : Method := { name := "<init>", desc := "(Ljava/lang/StringBuilder;)V", sig := { parameters := [(.object "java/lang/StringBuilder")], returnType := none }, accessFlags := 1, code := some k8c2 }
def k8c3 : Code := { maxStack := 2, maxLocals := 1, code := jdk_42_method_54_code, exceptionTable := #[], attributes := #[] }
def k8m3 : Method := { name := "length", desc := "()I", sig := { parameters := [], returnType := some .int }, accessFlags := 1, code := some k8c3 }
def k8c4 : Code := { maxStack := 2, maxLocals := 3, code := jdk_42_method_66_code, exceptionTable := #[], attributes := #[] }
def k8m4 : Method := { name := "equals", desc := "(Ljava/lang/Object;)Z", sig := { parameters := [(.object "java/lang/Object")], returnType := some .boolean }, accessFlags := 1, code := some k8c4 }
def k8c5 : Code := { maxStack := 5, maxLocals := 4, code := jdk_42_method_147_code, exceptionTable := #[], attributes := #[] }
def k8m5 : Method := { name := "getBytes", desc := "([BIB)V", sig := { parameters := [(.array .byte), .int, .byte], returnType := none }, accessFlags := 0, code := some k8c5 }
def k8c6 : Code := { maxStack := 4, maxLocals := 6, code := jdk_42_method_149_code, exceptionTable := #[], attributes := #[] }
def k8m6 : Method := { name := "<init>", desc := "([CIILjava/lang/Void;)V", sig := { parameters := [(.array .char), .int, .int, (.object "java/lang/Void")], returnType := none }, accessFlags := 2, code := some k8c6 }
def k8c7 : Code := { maxStack := 5, maxLocals := 5, code := jdk_42_method_150_code, exceptionTable := #[], attributes := #[] }
def k8m7 : Method := { name := "<init>", desc := "(Ljava/lang/AbstractStringBuilder;Ljava/lang/Void;)V", sig := { parameters := [(.object "java/lang/AbstractStringBuilder"), (.object "java/lang/Void")], returnType := none }, accessFlags := 0, code := some k8c7 }
def k8c8 : Code := { maxStack := 1, maxLocals := 1, code := jdk_42_method_152_code, exceptionTable := #[], attributes := #[] }
def k8m8 : Method := { name := "coder", desc := "()B", sig := { parameters := [], returnType := some .byte }, accessFlags := 0, code := some k8c8 }
/-- java/lang/String -/
def k8 : Class := { plain "java/lang/String" (some 0) with
  accessFlags := 49
  interfaces := #[4, 2, 5, 6, 7]
  cf := some (fileOf pool8 10 #[.nestMembers #[1103]] #[{ accessFlags := 1, nameIndex := 5, descriptorIndex := 6, attributes := #[] }, { accessFlags := 1, nameIndex := 5, descriptorIndex := 1010, attributes := #[] }, { accessFlags := 1, nameIndex := 5, descriptorIndex := 1233, attributes := #[] }, { accessFlags := 1, nameIndex := 507, descriptorIndex := 334, attributes := #[] }, { accessFlags := 1, nameIndex := 543, descriptorIndex := 573, attributes := #[] }, { accessFlags := 0, nameIndex := 532, descriptorIndex := 821, attributes := #[] }, { accessFlags := 2, nameIndex := 5, descriptorIndex := 29, attributes := #[] }, { accessFlags := 0, nameIndex := 5, descriptorIndex := 491, attributes := #[] }, { accessFlags := 0, nameIndex := 17, descriptorIndex := 337, attributes := #[] }] 49 2 #[1106, 1108, 575, 1110, 1112] #[{ accessFlags := 18, nameIndex := 13, descriptorIndex := 14, attributes := #[] }, { accessFlags := 18, nameIndex := 17, descriptorIndex := 18, attributes := #[] }, { accessFlags := 2, nameIndex := 21, descriptorIndex := 22, attributes := #[] }, { accessFlags := 2, nameIndex := 25, descriptorIndex := 26, attributes := #[] }, { accessFlags := 26, nameIndex := 1116, descriptorIndex := 1117, attributes := #[] }, { accessFlags := 24, nameIndex := 40, descriptorIndex := 26, attributes := #[] }, { accessFlags := 26, nameIndex := 1101, descriptorIndex := 1102, attributes := #[] }, { accessFlags := 26, nameIndex := 1121, descriptorIndex := 1122, attributes := #[] }, { accessFlags := 25, nameIndex := 599, descriptorIndex := 600, attributes := #[] }, { accessFlags := 24, nameIndex := 1125, descriptorIndex := 18, attributes := #[] }, { accessFlags := 24, nameIndex := 1127, descriptorIndex := 18, attributes := #[] }])
  fields := #[{ name := "value", type := (.array .byte), accessFlags := 18, slot := 0, constantValue := 0 }, { name := "coder", type := .byte, accessFlags := 18, slot := 1, constantValue := 0 }, { name := "hash", type := .int, accessFlags := 2, slot := 2, constantValue := 0 }, { name := "hashIsZero", type := .boolean, accessFlags := 2, slot := 3, constantValue := 0 }, { name := "serialVersionUID", type := .long, accessFlags := 26, slot := 0, constantValue := 0 }, { name := "COMPACT_STRINGS", type := .boolean, accessFlags := 24, slot := 1, constantValue := 0 }, { name := "serialPersistentFields", type := (.array (.object "java/io/ObjectStreamField")), accessFlags := 26, slot := 2, constantValue := 0 }, { name := "REPL", type := .char, accessFlags := 26, slot := 3, constantValue := 0 }, { name := "CASE_INSENSITIVE_ORDER", type := (.object "java/util/Comparator"), accessFlags := 25, slot := 4, constantValue := 0 }, { name := "LATIN1", type := .byte, accessFlags := 24, slot := 5, constantValue := 0 }, { name := "UTF16", type := .byte, accessFlags := 24, slot := 6, constantValue := 0 }]
  methods := #[k8m0, k8m1, k8m2, k8m3, k8m4, k8m5, k8m6, k8m7, k8m8]
  instanceTypes := #[(.array .byte), .byte, .int, .boolean]
  staticTypes := #[.long, .boolean, (.array (.object "java/io/ObjectStreamField")), .char, (.object "java/util/Comparator"), .byte, .byte]
  resolved := Array.replicate 1451 none
  statics := some 0 }

def pool9 : Array CpInfo := pool [(2, .class_ 4), (1, u "java/lang/Object"), (0, u "<init>"), (0, u "()V"), (35, .class_ 44), (1, u "java/util/Objects"), (0, u "requireNonNull"), (48, u "(Ljava/lang/Object;Ljava/lang/String;)Ljava/lang/Object;")] 89

def k9m0 : Method := { name := "<init>", desc := "()V", sig := { parameters := [], returnType := none }, accessFlags := 2, code := none }
def k9c1 : Code := { maxStack := 3, maxLocals := 2, code := jdk_31_method_11_code, exceptionTable := #[], attributes := #[] }
def k9m1 : Method := { name := "requireNonNull", desc := "(Ljava/lang/Object;Ljava/lang/String;)Ljava/lang/Object;", sig := { parameters := [(.object "java/lang/Object"), (.object "java/lang/String")], returnType := some (.object "java/lang/Object") }, accessFlags := 9, code := some k9c1 }
/-- java/util/Objects -/
def k9 : Class := { plain "java/util/Objects" (some 0) with
  accessFlags := 49
  interfaces := #[]
  cf := some (fileOf pool9 42 #[] #[{ accessFlags := 2, nameIndex := 5, descriptorIndex := 6, attributes := #[] }, { accessFlags := 9, nameIndex := 45, descriptorIndex := 94, attributes := #[] }] 49 2 #[] #[])
  fields := #[]
  methods := #[k9m0, k9m1]
  instanceTypes := #[]
  staticTypes := #[]
  resolved := Array.replicate 184 none
  statics := none }

def pool10 : Array CpInfo := pool [(4, .class_ 6), (1, u "java/lang/Object"), (0, u "<init>"), (0, u "()V"), (5, .class_ 16), (1, u "java/lang/StringLatin1"), (73, u "canEncode"), (14, u "(C)Z"), (15, u "$assertionsDisabled"), (0, u "Z"), (98, .class_ 223), (1, u "java/lang/StringLatin1$LinesSpliterator"), (57, u "equals"), (0, u "([B[B)Z"), (107, .class_ 391), (0, u "java/lang/StringLatin1$CharsSpliterator")] 3

def k10m0 : Method := { name := "<init>", desc := "()V", sig := { parameters := [], returnType := none }, accessFlags := 0, code := none }
def k10c1 : Code := { maxStack := 2, maxLocals := 1, code := jdk_43_method_3_code, exceptionTable := #[], attributes := #[] }
def k10m1 : Method := { name := "canEncode", desc := "(C)Z", sig := { parameters := [.char], returnType := some .boolean }, accessFlags := 9, code := some k10c1 }
def k10c2 : Code := { maxStack := 3, maxLocals := 3, code := jdk_43_method_13_code, exceptionTable := #[], attributes := #[] }
def k10m2 : Method := { name := "equals", desc := "([B[B)Z", sig := { parameters := [(.array .byte), (.array .byte)], returnType := some .boolean }, accessFlags := 9, code := some k10c2 }
/-- java/lang/StringLatin1 -/
def k10 : Class := { plain "java/lang/StringLatin1" (some 0) with
  accessFlags := 48
  interfaces := #[]
  cf := some (fileOf pool10 14 #[.nestMembers #[390, 221]] #[{ accessFlags := 0, nameIndex := 7, descriptorIndex := 8, attributes := #[] }, { accessFlags := 9, nameIndex := 90, descriptorIndex := 105, attributes := #[] }, { accessFlags := 9, nameIndex := 281, descriptorIndex := 282, attributes := #[] }] 48 4 #[] #[{ accessFlags := 4120, nameIndex := 121, descriptorIndex := 122, attributes := #[] }])
  fields := #[{ name := "$assertionsDisabled", type := .boolean, accessFlags := 4120, slot := 0, constantValue := 0 }]
  methods := #[k10m0, k10m1, k10m2]
  instanceTypes := #[]
  staticTypes := #[.boolean]
  resolved := Array.replicate 395 none
  statics := none }

def pool11 : Array CpInfo := pool [(6, .class_ 8), (1, u "java/lang/Object"), (0, u "<init>"), (0, u "()V"), (1, .class_ 14), (1, u "java/lang/StringUTF16"), (31, u "$assertionsDisabled"), (0, u "Z"), (13, u "HI_BYTE_SHIFT"), (0, u "I"), (2, u "LO_BYTE_SHIFT"), (49, .methodref 12 116), (0, .nameAndType 117 118), (0, u "compress"), (0, u "([CI[BII)I"), (3, u "([CII)[B"), (138, u "coderFromArrayLen"), (0, u "([BI)B"), (106, .class_ 371), (1, u "java/lang/StringUTF16$LinesSpliterator"), (58, u "MAX_LENGTH"), (196, .class_ 628), (0, u "java/lang/StringUTF16$CodePointsSpliterator"), (0, .class_ 630), (0, u "java/lang/StringUTF16$CharsSpliterator")] 4

def k11m0 : Method := { name := "<init>", desc := "()V", sig := { parameters := [], returnType := none }, accessFlags := 0, code := none }
def k11c1 : Code := { maxStack := 2, maxLocals := 2, code := jdk_52_method_15_code, exceptionTable := #[], attributes := #[] }
def k11m1 : Method := { name := "coderFromArrayLen", desc := "([BI)B", sig := { parameters := [(.array .byte), .int], returnType := some .byte }, accessFlags := 8, code := some k11c1 }
def k11c2 : Code := { maxStack := 5, maxLocals := 6, code := jdk_52_method_16_code, exceptionTable := #[], attributes := #[] }
def k11m2 : Method := { name := "compress", desc := "([CII)[B", sig := { parameters := [(.array .char), .int, .int], returnType := some (.array .byte) }, accessFlags := 9, code := some k11c2 }
def k11c3 : Code := { maxStack := 3, maxLocals := 7, code := jdk_52_method_21_code, exceptionTable := #[], attributes := #[] }
def k11m3 : Method := { name := "compress", desc := "([CI[BII)I", sig := { parameters := [(.array .char), .int, (.array .byte), .int, .int], returnType := some .int }, accessFlags := 9, code := some k11c3 }
/-- java/lang/StringUTF16 -/
def k11 : Class := { plain "java/lang/StringUTF16" (some 0) with
  accessFlags := 48
  interfaces := #[]
  cf := some (fileOf pool11 12 #[.nestMembers #[627, 629, 369]] #[{ accessFlags := 0, nameIndex := 9, descriptorIndex := 10, attributes := #[] }, { accessFlags := 8, nameIndex := 261, descriptorIndex := 262, attributes := #[] }, { accessFlags := 9, nameIndex := 117, descriptorIndex := 122, attributes := #[] }, { accessFlags := 9, nameIndex := 117, descriptorIndex := 118, attributes := #[] }] 48 6 #[] #[{ accessFlags := 26, nameIndex := 61, descriptorIndex := 62, attributes := #[] }, { accessFlags := 26, nameIndex := 65, descriptorIndex := 62, attributes := #[] }, { accessFlags := 24, nameIndex := 430, descriptorIndex := 62, attributes := #[] }, { accessFlags := 4120, nameIndex := 46, descriptorIndex := 47, attributes := #[] }])
  fields := #[{ name := "HI_BYTE_SHIFT", type := .int, accessFlags := 26, slot := 0, constantValue := 0 }, { name := "LO_BYTE_SHIFT", type := .int, accessFlags := 26, slot := 1, constantValue := 0 }, { name := "MAX_LENGTH", type := .int, accessFlags := 24, slot := 2, constantValue := 0 }, { name := "$assertionsDisabled", type := .boolean, accessFlags := 4120, slot := 3, constantValue := 0 }]
  methods := #[k11m0, k11m1, k11m2, k11m3]
  instanceTypes := #[]
  staticTypes := #[.int, .int, .int, .boolean]
  resolved := Array.replicate 635 none
  statics := none }

def pool12 : Array CpInfo := pool [(1, .class_ 2), (0, u "java/lang/Appendable"), (0, .class_ 4), (0, u "java/lang/Object")] 9

/-- java/lang/Appendable -/
def k12 : Class := { plain "java/lang/Appendable" (some 0) with
  accessFlags := 1537
  interfaces := #[]
  cf := some (fileOf pool12 1 #[] #[] 1537 3 #[] #[])
  fields := #[]
  methods := #[]
  instanceTypes := #[]
  staticTypes := #[]
  resolved := Array.replicate 14 none
  statics := none }

def pool13 : Array CpInfo := pool [(1, .class_ 2), (0, u "java/lang/String"), (0, .methodref 4 5), (0, .class_ 6), (0, .nameAndType 7 8), (0, u "java/lang/Object"), (0, u "<init>"), (0, u "()V"), (1, .class_ 12), (1, u "java/lang/AbstractStringBuilder"), (0, u "EMPTYVALUE"), (0, u "[B"), (0, .fieldref 10 16), (0, .nameAndType 17 14), (0, u "value"), (0, .fieldref 1 19), (0, .nameAndType 20 21), (0, u "COMPACT_STRINGS"), (0, u "Z"), (0, .fieldref 10 23), (0, .nameAndType 24 25), (0, u "coder"), (0, u "B"), (6, .methodref 1 33), (0, .nameAndType 34 35), (0, u "length"), (0, u "()I"), (4, .methodref 1 41), (0, .nameAndType 24 42), (0, u "()B"), (2, u "append"), (0, u "(Ljava/lang/String;)Ljava/lang/AbstractStringBuilder;"), (1, .class_ 49), (0, u "java/lang/CharSequence"), (19, u "(Ljava/lang/String;)V"), (5, u "maybeLatin1"), (3, .fieldref 10 80), (0, .nameAndType 81 82), (0, u "count"), (0, u "I"), (0, .methodref 10 84), (0, .nameAndType 85 86), (0, u "isLatin1"), (0, u "()Z"), (1, .class_ 90), (1, u "java/lang/StringLatin1"), (9, .methodref 10 101), (0, .nameAndType 102 103), (0, u "ensureCapacityInternal"), (0, u "(I)V"), (87, .methodref 88 192), (0, .nameAndType 193 194), (0, u "canEncode"), (0, u "(C)Z"), (13, .methodref 10 209), (0, .nameAndType 210 211), (0, u "putStringAt"), (0, u "(ILjava/lang/String;)V"), (5, u "inflateIfNeededFor"), (2, .nameAndType 221 222), (0, u "getBytes"), (0, u "([BIB)V"), (69, u "(C)Ljava/lang/AbstractStringBuilder;"), (104, .methodref 10 398), (0, .nameAndType 217 69), (0, .methodref 1 220), (3, u "()[B"), (40, .class_ 445), (0, u "java/lang/Appendable"), (106, u "getValue")] 56

def k13m0 : Method := { name := "<init>", desc := "()V", sig := { parameters := [], returnType := none }, accessFlags := 0, code := none }
def k13c1 : Code := { maxStack := 2, maxLocals := 2, code := jdk_68_method_2_code, exceptionTable := #[], attributes := #[] }
def k13m1 : Method := { name := "<init>", desc := "(I)V", sig := { parameters := [.int], returnType := none }, accessFlags := 0, code := some k13c1 }
def k13c2 : Code := { maxStack := 1, maxLocals := 1, code := jdk_68_method_6_code, exceptionTable := #[], attributes := #[] }
def k13m2 : Method := { name := "length", desc := "()I", sig := { parameters := [], returnType := some .int }, accessFlags := 1, code := some k13c2 }
def k13c3 : Code := { maxStack := 4, maxLocals := 3, code := jdk_68_method_9_code, exceptionTable := #[], attributes := #[] }
def k13m3 : Method := { name := "ensureCapacityInternal", desc := "(I)V", sig := { parameters := [.int], returnType := none }, accessFlags := 2, code := some k13c3 }
def k13c4 : Code := { maxStack := 3, maxLocals := 3, code := jdk_68_method_22_code, exceptionTable := #[], attributes := #[] }
def k13m4 : Method := { name := "append", desc := "(Ljava/lang/String;)Ljava/lang/AbstractStringBuilder;", sig := { parameters := [(.object "java/lang/String")], returnType := some (.object "java/lang/AbstractStringBuilder") }, accessFlags := 1, code := some k13c4 }
def k13c5 : Code := { maxStack := 5, maxLocals := 2, code := jdk_68_method_31_code, exceptionTable := #[], attributes := #[] }
def k13m5 : Method := { name := "append", desc := "(C)Ljava/lang/AbstractStringBuilder;", sig := { parameters := [.char], returnType := some (.object "java/lang/AbstractStringBuilder") }, accessFlags := 1, code := some k13c5 }
def k13c6 : Code := { maxStack := 1, maxLocals := 1, code := jdk_68_method_64_code, exceptionTable := #[], attributes := #[] }
def k13m6 : Method := { name := "getValue", desc := "()[B", sig := { parameters := [], returnType := some (.array .byte) }, accessFlags := 16, code := some k13c6 }
def k13c7 : Code := { maxStack := 1, maxLocals := 1, code := jdk_68_method_68_code, exceptionTable := #[], attributes := #[] }
def k13m7 : Method := { name := "isLatin1", desc := "()Z", sig := { parameters := [], returnType := some .boolean }, accessFlags := 16, code := some k13c7 }
def k13c8 : Code := { maxStack := 2, maxLocals := 2, code := jdk_68_method_71_code, exceptionTable := #[], attributes := #[] }
def k13m8 : Method := { name := "inflateIfNeededFor", desc := "(Ljava/lang/String;)V", sig := { parameters := [(.object "java/lang/String")], returnType := none }, accessFlags := 2, code := some k13c8 }
def k13c9 : Code := { maxStack := 4, maxLocals := 3, code := jdk_68_method_73_code, exceptionTable := #[], attributes := #[] }
def k13m9 : Method := { name := "putStringAt", desc := "(ILjava/lang/String;)V", sig := { parameters := [.int, (.object "java/lang/String")], returnType := none }, accessFlags := 2, code := some k13c9 }
/-- java/lang/AbstractStringBuilder -/
def k13 : Class := { plain "java/lang/AbstractStringBuilder" (some 0) with
  accessFlags := 1056
  interfaces := #[12, 5]
  cf := some (fileOf pool13 10 #[] #[{ accessFlags := 0, nameIndex := 7, descriptorIndex := 8, attributes := #[] }, { accessFlags := 0, nameIndex := 7, descriptorIndex := 103, attributes := #[] }, { accessFlags := 1, nameIndex := 34, descriptorIndex := 35, attributes := #[] }, { accessFlags := 2, nameIndex := 102, descriptorIndex := 103, attributes := #[] }, { accessFlags := 1, nameIndex := 45, descriptorIndex := 46, attributes := #[] }, { accessFlags := 1, nameIndex := 45, descriptorIndex := 292, attributes := #[] }, { accessFlags := 16, nameIndex := 552, descriptorIndex := 403, attributes := #[] }, { accessFlags := 16, nameIndex := 85, descriptorIndex := 86, attributes := #[] }, { accessFlags := 2, nameIndex := 217, descriptorIndex := 69, attributes := #[] }, { accessFlags := 2, nameIndex := 210, descriptorIndex := 211, attributes := #[] }] 1056 4 #[444, 48] #[{ accessFlags := 0, nameIndex := 17, descriptorIndex := 14, attributes := #[] }, { accessFlags := 0, nameIndex := 24, descriptorIndex := 25, attributes := #[] }, { accessFlags := 0, nameIndex := 75, descriptorIndex := 21, attributes := #[] }, { accessFlags := 0, nameIndex := 81, descriptorIndex := 82, attributes := #[] }, { accessFlags := 26, nameIndex := 13, descriptorIndex := 14, attributes := #[] }])
  fields := #[{ name := "value", type := (.array .byte), accessFlags := 0, slot := 0, constantValue := 0 }, { name := "coder", type := .byte, accessFlags := 0, slot := 1, constantValue := 0 }, { name := "maybeLatin1", type := .boolean, accessFlags := 0, slot := 2, constantValue := 0 }, { name := "count", type := .int, accessFlags := 0, slot := 3, constantValue := 0 }, { name := "EMPTYVALUE", type := (.array .byte), accessFlags := 26, slot := 0, constantValue := 0 }]
  methods := #[k13m0, k13m1, k13m2, k13m3, k13m4, k13m5, k13m6, k13m7, k13m8, k13m9]
  instanceTypes := #[(.array .byte), .byte, .boolean, .int]
  staticTypes := #[(.array .byte)]
  resolved := Array.replicate 609 none
  statics := none }

def pool14 : Array CpInfo := pool [(1, .methodref 2 3), (0, .class_ 4), (0, .nameAndType 5 6), (0, u "java/lang/AbstractStringBuilder"), (0, u "<init>"), (0, u "(I)V"), (11, .class_ 20), (1, u "java/lang/String"), (3, .class_ 26), (1, u "java/lang/StringBuilder"), (0, u "append"), (0, u "(Ljava/lang/String;)Ljava/lang/StringBuilder;"), (0, .methodref 2 30), (0, .nameAndType 27 31), (0, u "(Ljava/lang/String;)Ljava/lang/AbstractStringBuilder;"), (18, .methodref 2 51), (0, .nameAndType 27 52), (0, u "(C)Ljava/lang/AbstractStringBuilder;"), (84, .methodref 18 138), (0, .nameAndType 5 139), (0, u "(Ljava/lang/StringBuilder;)V"), (5, u "()V"), (10, u "()I"), (129, u "(C)Ljava/lang/StringBuilder;"), (56, .methodref 2 344), (0, .nameAndType 345 156), (0, u "length"), (3, .class_ 350), (0, u "java/lang/Appendable"), (0, .class_ 352), (0, u "java/io/Serializable"), (0, .class_ 354), (0, u "java/lang/Comparable"), (0, .class_ 356), (0, u "java/lang/CharSequence"), (0, u "serialVersionUID"), (0, u "J"), (40, u "toString"), (0, u "()Ljava/lang/String;")] 21

def k14c0 : Code := { maxStack := 2, maxLocals := 1, code := jdk_67_method_1_code, exceptionTable := #[], attributes := #[] }
def k14m0 : Method := { name := "<init>", desc := "()V", sig := { parameters := [], returnType := none }, accessFlags := 1, code := some k14c0 }
def k14c1 : Code := { maxStack := 2, maxLocals := 2, code := jdk_67_method_7_code, exceptionTable := #[], attributes := #[] }
def k14m1 : Method := { name := "append", desc := "(Ljava/lang/String;)Ljava/lang/StringBuilder;", sig := { parameters := [(.object "java/lang/String")], returnType := some (.object "java/lang/StringBuilder") }, accessFlags := 1, code := some k14c1 }
def k14c2 : Code := { maxStack := 2, maxLocals := 2, code := jdk_67_method_14_code, exceptionTable := #[], attributes := #[] }
def k14m2 : Method := { name := "append", desc := "(C)Ljava/lang/StringBuilder;", sig := { parameters := [.char], returnType := some (.object "java/lang/StringBuilder") }, accessFlags := 1, code := some k14c2 }
def k14c3 : Code := { maxStack := 3, maxLocals := 1, code := jdk_67_method_42_code, exceptionTable := #[], attributes := #[] }
def k14m3 : Method := { name := "toString", desc := "()Ljava/lang/String;", sig := { parameters := [], returnType := some (.object "java/lang/String") }, accessFlags := 1, code := some k14c3 }
def k14c4 : Code := { maxStack := 1, maxLocals := 1, code := jdk_67_method_93_code, exceptionTable := #[], attributes := #[] }
def k14m4 : Method := { name := "length", desc := "()I", sig := { parameters := [], returnType := some .int }, accessFlags := 4161, code := some k14c4 }
/-- java/lang/StringBuilder -/
def k14 : Class := { plain "java/lang/StringBuilder" (some 13) with
  accessFlags := 49
  interfaces := #[12, 4, 2, 5]
  cf := some (fileOf pool14 24 #[] #[{ accessFlags := 1, nameIndex := 5, descriptorIndex := 145, attributes := #[] }, { accessFlags := 1, nameIndex := 27, descriptorIndex := 28, attributes := #[] }, { accessFlags := 1, nameIndex := 27, descriptorIndex := 286, attributes := #[] }, { accessFlags := 1, nameIndex := 399, descriptorIndex := 400, attributes := #[] }, { accessFlags := 4161, nameIndex := 345, descriptorIndex := 156, attributes := #[] }] 49 2 #[349, 351, 353, 355] #[{ accessFlags := 24, nameIndex := 357, descriptorIndex := 358, attributes := #[] }])
  fields := #[{ name := "serialVersionUID", type := .long, accessFlags := 24, slot := 0, constantValue := 0 }]
  methods := #[k14m0, k14m1, k14m2, k14m3, k14m4]
  instanceTypes := #[(.array .byte), .byte, .boolean, .int]
  staticTypes := #[.long]
  resolved := Array.replicate 422 none
  statics := none }

def pool15 : Array CpInfo := pool [(2, .class_ 4), (1, u "java/lang/Object"), (0, u "<init>"), (0, u "()V"), (1, .class_ 10), (1, u "java/lang/System"), (0, u "allowSecurityManager"), (0, u "I"), (16, u "cons"), (0, u "Ljava/io/Console;"), (77, .class_ 110), (1, u "java/lang/System$CallersHolder"), (43, u "initialErrStream"), (0, u "Ljava/io/PrintStream;"), (19, u "security"), (0, u "Ljava/lang/SecurityManager;"), (31, .class_ 209), (0, u "java/lang/System$1"), (7, u "props"), (0, u "Ljava/util/Properties;"), (2, u "lineSeparator"), (0, u "Ljava/lang/String;"), (96, .class_ 321), (1, u "java/lang/System$LoggerFinder"), (5, .class_ 328), (0, u "java/lang/System$Logger"), (67, u "err"), (2, u "out"), (91, u "notSupportedJnuEncoding"), (15, u "in"), (17, u "initialIn"), (0, u "Ljava/io/InputStream;"), (35, u "bootLayer"), (0, u "Ljava/lang/ModuleLayer;"), (99, .class_ 664), (0, u "java/lang/System$2"), (9, u "NEVER"), (2, u "MAYBE"), (49, u "arraycopy"), (0, u "(Ljava/lang/Object;ILjava/lang/Object;II)V"), (72, .class_ 802), (0, u "java/lang/System$Logger$Level")] 31

def k15m0 : Method := { name := "<init>", desc := "()V", sig := { parameters := [], returnType := none }, accessFlags := 2, code := none }
def k15m1 : Method := { name := "arraycopy", desc := "(Ljava/lang/Object;ILjava/lang/Object;II)V", sig := { parameters := [(.object "java/lang/Object"), .int, (.object "java/lang/Object"), .int, .int], returnType := none }, accessFlags := 265, code := none }
/-- java/lang/System -/
def k15 : Class := { plain "java/lang/System" (some 0) with
  accessFlags := 49
  interfaces := #[]
  cf := some (fileOf pool15 8 #[.nestMembers #[319, 327, 801, 108, 663, 208]] #[{ accessFlags := 2, nameIndex := 5, descriptorIndex := 6, attributes := #[] }, { accessFlags := 265, nameIndex := 727, descriptorIndex := 728, attributes := #[] }] 49 2 #[] #[{ accessFlags := 25, nameIndex := 507, descriptorIndex := 526, attributes := #[] }, { accessFlags := 25, nameIndex := 399, descriptorIndex := 155, attributes := #[] }, { accessFlags := 25, nameIndex := 396, descriptorIndex := 155, attributes := #[] }, { accessFlags := 10, nameIndex := 525, descriptorIndex := 526, attributes := #[] }, { accessFlags := 26, nameIndex := 674, descriptorIndex := 12, attributes := #[] }, { accessFlags := 26, nameIndex := 677, descriptorIndex := 12, attributes := #[] }, { accessFlags := 10, nameIndex := 11, descriptorIndex := 12, attributes := #[] }, { accessFlags := 74, nameIndex := 175, descriptorIndex := 176, attributes := #[] }, { accessFlags := 10, nameIndex := 491, descriptorIndex := 222, attributes := #[] }, { accessFlags := 74, nameIndex := 29, descriptorIndex := 30, attributes := #[] }, { accessFlags := 74, nameIndex := 154, descriptorIndex := 155, attributes := #[] }, { accessFlags := 10, nameIndex := 217, descriptorIndex := 218, attributes := #[] }, { accessFlags := 10, nameIndex := 221, descriptorIndex := 222, attributes := #[] }, { accessFlags := 8, nameIndex := 562, descriptorIndex := 563, attributes := #[] }])
  fields := #[{ name := "in", type := (.object "java/io/InputStream"), accessFlags := 25, slot := 0, constantValue := 0 }, { name := "out", type := (.object "java/io/PrintStream"), accessFlags := 25, slot := 1, constantValue := 0 }, { name := "err", type := (.object "java/io/PrintStream"), accessFlags := 25, slot := 2, constantValue := 0 }, { name := "initialIn", type := (.object "java/io/InputStream"), accessFlags := 10, slot := 3, constantValue := 0 }, { name := "NEVER", type := .int, accessFlags := 26, slot := 4, constantValue := 0 }, { name := "MAYBE", type := .int, accessFlags := 26, slot := 5, constantValue := 0 }, { name := "allowSecurityManager", type := .int, accessFlags := 10, slot := 6, constantValue := 0 }, { name := "security", type := (.object "java/lang/SecurityManager"), accessFlags := 74, slot := 7, constantValue := 0 }, { name := "notSupportedJnuEncoding", type := (.object "java/lang/String"), accessFlags := 10, slot := 8, constantValue := 0 }, { name := "cons", type := (.object "java/io/Console"), accessFlags := 74, slot := 9, constantValue := 0 }, { name := "initialErrStream", type := (.object "java/io/PrintStream"), accessFlags := 74, slot := 10, constantValue := 0 }, { name := "props", type := (.object "java/util/Properties"), accessFlags := 10, slot := 11, constantValue := 0 }, { name := "lineSeparator", type := (.object "java/lang/String"), accessFlags := 10, slot := 12, constantValue := 0 }, { name := "bootLayer", type := (.object "java/lang/ModuleLayer"), accessFlags := 8, slot := 13, constantValue := 0 }]
  methods := #[k15m0, k15m1]
  instanceTypes := #[]
  staticTypes := #[(.object "java/io/InputStream"), (.object "java/io/PrintStream"), (.object "java/io/PrintStream"), (.object "java/io/InputStream"), .int, .int, .int, (.object "java/lang/SecurityManager"), (.object "java/lang/String"), (.object "java/io/Console"), (.object "java/io/PrintStream"), (.object "java/util/Properties"), (.object "java/lang/String"), (.object "java/lang/ModuleLayer")]
  resolved := Array.replicate 834 none
  statics := none }

def pool16 : Array CpInfo := pool [(2, .class_ 4), (1, u "java/lang/Object"), (0, u "<init>"), (0, u "()V"), (7, .class_ 16), (1, u "java/util/Arrays"), (57, .class_ 76), (1, u "java/util/Arrays$NaturalOrder"), (36, .class_ 115), (1, u "java/util/Arrays$LegacyMergeSort"), (1, u "Z"), (21, u "copyOfRange"), (10, .methodref 151 152), (0, .class_ 153), (0, .nameAndType 154 155), (0, u "java/lang/System"), (0, u "arraycopy"), (0, u "(Ljava/lang/Object;ILjava/lang/Object;II)V"), (148, .methodref 305 306), (0, .class_ 307), (0, .nameAndType 308 309), (0, u "java/lang/Math"), (0, u "min"), (0, u "(II)I"), (29, .methodref 14 340), (0, .nameAndType 341 342), (0, u "copyOfRangeByte"), (0, u "([BII)[B"), (0, .methodref 14 344), (0, .nameAndType 345 346), (0, u "checkLength"), (0, u "(II)V"), (28, .class_ 376), (0, u "java/util/Arrays$ArrayList"), (68, u "$assertionsDisabled"), (269, u "MIN_ARRAY_SORT_GRAN"), (0, u "I"), (2, u "INSERTIONSORT_THRESHOLD"), (255, .class_ 976), (0, u "java/util/Arrays$ArrayItr")] 52

def k16m0 : Method := { name := "<init>", desc := "()V", sig := { parameters := [], returnType := none }, accessFlags := 2, code := none }
def k16c1 : Code := { maxStack := 4, maxLocals := 2, code := jdk_65_method_131_code, exceptionTable := #[], attributes := #[] }
def k16m1 : Method := { name := "checkLength", desc := "(II)V", sig := { parameters := [.int, .int], returnType := none }, accessFlags := 10, code := some k16c1 }
def k16c2 : Code := { maxStack := 3, maxLocals := 3, code := jdk_65_method_132_code, exceptionTable := #[], attributes := #[] }
def k16m2 : Method := { name := "copyOfRange", desc := "([BII)[B", sig := { parameters := [(.array .byte), .int, .int], returnType := some (.array .byte) }, accessFlags := 9, code := some k16c2 }
def k16c3 : Code := { maxStack := 6, maxLocals := 5, code := jdk_65_method_133_code, exceptionTable := #[], attributes := #[] }
def k16m3 : Method := { name := "copyOfRangeByte", desc := "([BII)[B", sig := { parameters := [(.array .byte), .int, .int], returnType := some (.array .byte) }, accessFlags := 10, code := some k16c3 }
/-- java/util/Arrays -/
def k16 : Class := { plain "java/util/Arrays" (some 0) with
  accessFlags := 49
  interfaces := #[]
  cf := some (fileOf pool16 14 #[.nestMembers #[975, 375, 113, 74]] #[{ accessFlags := 2, nameIndex := 5, descriptorIndex := 6, attributes := #[] }, { accessFlags := 10, nameIndex := 345, descriptorIndex := 346, attributes := #[] }, { accessFlags := 9, nameIndex := 139, descriptorIndex := 342, attributes := #[] }, { accessFlags := 10, nameIndex := 341, descriptorIndex := 342, attributes := #[] }] 49 2 #[] #[{ accessFlags := 26, nameIndex := 715, descriptorIndex := 716, attributes := #[] }, { accessFlags := 26, nameIndex := 719, descriptorIndex := 716, attributes := #[] }, { accessFlags := 4120, nameIndex := 445, descriptorIndex := 117, attributes := #[] }])
  fields := #[{ name := "MIN_ARRAY_SORT_GRAN", type := .int, accessFlags := 26, slot := 0, constantValue := 0 }, { name := "INSERTIONSORT_THRESHOLD", type := .int, accessFlags := 26, slot := 1, constantValue := 0 }, { name := "$assertionsDisabled", type := .boolean, accessFlags := 4120, slot := 2, constantValue := 0 }]
  methods := #[k16m0, k16m1, k16m2, k16m3]
  instanceTypes := #[]
  staticTypes := #[.int, .int, .boolean]
  resolved := Array.replicate 1029 none
  statics := none }

def pool17 : Array CpInfo := pool [(1, .class_ 2), (0, u "java/lang/Math"), (1, .class_ 6), (1, u "java/lang/Object"), (0, u "<init>"), (0, u "()V"), (89, .class_ 100), (1, u "java/lang/Math$RandomNumberGeneratorHolder"), (71, u "negativeZeroFloatBits"), (0, u "J"), (2, u "negativeZeroDoubleBits"), (24, u "min"), (43, u "$assertionsDisabled"), (0, u "Z"), (88, u "(II)I"), (2, u "twoToTheDoubleScaleDown"), (0, u "D"), (4, u "twoToTheDoubleScaleUp"), (9, u "E"), (3, u "PI"), (2, u "TAU"), (2, u "DEGREES_TO_RADIANS"), (0, u "RADIANS_TO_DEGREES")] 94

def k17m0 : Method := { name := "<init>", desc := "()V", sig := { parameters := [], returnType := none }, accessFlags := 2, code := none }
def k17c1 : Code := { maxStack := 2, maxLocals := 2, code := jdk_29_method_69_code, exceptionTable := #[], attributes := #[] }
def k17m1 : Method := { name := "min", desc := "(II)I", sig := { parameters := [.int, .int], returnType := some .int }, accessFlags := 9, code := some k17c1 }
/-- java/lang/Math -/
def k17 : Class := { plain "java/lang/Math" (some 0) with
  accessFlags := 49
  interfaces := #[]
  cf := some (fileOf pool17 1 #[.nestMembers #[98]] #[{ accessFlags := 2, nameIndex := 7, descriptorIndex := 8, attributes := #[] }, { accessFlags := 9, nameIndex := 201, descriptorIndex := 335, attributes := #[] }] 49 4 #[] #[{ accessFlags := 25, nameIndex := 354, descriptorIndex := 339, attributes := #[] }, { accessFlags := 25, nameIndex := 358, descriptorIndex := 339, attributes := #[] }, { accessFlags := 25, nameIndex := 361, descriptorIndex := 339, attributes := #[] }, { accessFlags := 26, nameIndex := 364, descriptorIndex := 339, attributes := #[] }, { accessFlags := 26, nameIndex := 365, descriptorIndex := 339, attributes := #[] }, { accessFlags := 26, nameIndex := 172, descriptorIndex := 173, attributes := #[] }, { accessFlags := 26, nameIndex := 176, descriptorIndex := 173, attributes := #[] }, { accessFlags := 8, nameIndex := 344, descriptorIndex := 339, attributes := #[] }, { accessFlags := 8, nameIndex := 338, descriptorIndex := 339, attributes := #[] }, { accessFlags := 4120, nameIndex := 245, descriptorIndex := 246, attributes := #[] }])
  fields := #[{ name := "E", type := .double, accessFlags := 25, slot := 0, constantValue := 0 }, { name := "PI", type := .double, accessFlags := 25, slot := 1, constantValue := 0 }, { name := "TAU", type := .double, accessFlags := 25, slot := 2, constantValue := 0 }, { name := "DEGREES_TO_RADIANS", type := .double, accessFlags := 26, slot := 3, constantValue := 0 }, { name := "RADIANS_TO_DEGREES", type := .double, accessFlags := 26, slot := 4, constantValue := 0 }, { name := "negativeZeroFloatBits", type := .long, accessFlags := 26, slot := 5, constantValue := 0 }, { name := "negativeZeroDoubleBits", type := .long, accessFlags := 26, slot := 6, constantValue := 0 }, { name := "twoToTheDoubleScaleUp", type := .double, accessFlags := 8, slot := 7, constantValue := 0 }, { name := "twoToTheDoubleScaleDown", type := .double, accessFlags := 8, slot := 8, constantValue := 0 }, { name := "$assertionsDisabled", type := .boolean, accessFlags := 4120, slot := 9, constantValue := 0 }]
  methods := #[k17m0, k17m1]
  instanceTypes := #[]
  staticTypes := #[.double, .double, .double, .double, .double, .long, .long, .double, .double, .boolean]
  resolved := Array.replicate 460 none
  statics := none }

def pool18 : Array CpInfo := pool [(2, .class_ 4), (1, u "java/lang/Object"), (0, u "<init>"), (0, u "()V"), (17, .class_ 26), (1, u "jdk/internal/util/Preconditions"), (28, .class_ 56), (0, u "jdk/internal/util/Preconditions$4"), (57, .class_ 115), (0, u "jdk/internal/util/Preconditions$1"), (7, u "SIOOBE_FORMATTER"), (0, u "Ljava/util/function/BiFunction;"), (0, .class_ 126), (0, u "jdk/internal/util/Preconditions$2"), (3, u "AIOOBE_FORMATTER"), (0, .class_ 132), (0, u "jdk/internal/util/Preconditions$3"), (3, u "IOOBE_FORMATTER")] 57

def k18m0 : Method := { name := "<init>", desc := "()V", sig := { parameters := [], returnType := none }, accessFlags := 1, code := none }
/-- jdk/internal/util/Preconditions -/
def k18 : Class := { plain "jdk/internal/util/Preconditions" (some 0) with
  accessFlags := 33
  interfaces := #[]
  cf := some (fileOf pool18 24 #[.nestMembers #[55, 131, 125, 114]] #[{ accessFlags := 1, nameIndex := 5, descriptorIndex := 6, attributes := #[] }] 33 2 #[] #[{ accessFlags := 25, nameIndex := 123, descriptorIndex := 124, attributes := #[] }, { accessFlags := 25, nameIndex := 130, descriptorIndex := 124, attributes := #[] }, { accessFlags := 25, nameIndex := 136, descriptorIndex := 124, attributes := #[] }])
  fields := #[{ name := "SIOOBE_FORMATTER", type := (.object "java/util/function/BiFunction"), accessFlags := 25, slot := 0, constantValue := 0 }, { name := "AIOOBE_FORMATTER", type := (.object "java/util/function/BiFunction"), accessFlags := 25, slot := 1, constantValue := 0 }, { name := "IOOBE_FORMATTER", type := (.object "java/util/function/BiFunction"), accessFlags := 25, slot := 2, constantValue := 0 }]
  methods := #[k18m0]
  instanceTypes := #[]
  staticTypes := #[(.object "java/util/function/BiFunction"), (.object "java/util/function/BiFunction"), (.object "java/util/function/BiFunction")]
  resolved := Array.replicate 194 none
  statics := some 1 }

def pool19 : Array CpInfo := pool [(9, u "<init>"), (6, .class_ 18), (1, u "java/lang/Object"), (0, u "()V"), (1, .class_ 23), (1, u "jdk/internal/util/ArraysSupport"), (0, u "LOG2_ARRAY_LONG_INDEX_SCALE"), (0, u "I"), (2, u "U"), (0, u "Ljdk/internal/misc/Unsafe;"), (8, u "BIG_ENDIAN"), (0, u "Z"), (8, u "LOG2_BYTE_BIT_SIZE"), (4, u "LOG2_ARRAY_INT_INDEX_SCALE"), (54, u "JLA"), (0, u "Ljdk/internal/access/JavaLangAccess;"), (11, u "LOG2_ARRAY_BOOLEAN_INDEX_SCALE"), (9, u "LOG2_ARRAY_BYTE_INDEX_SCALE"), (5, u "LOG2_ARRAY_CHAR_INDEX_SCALE"), (5, u "LOG2_ARRAY_SHORT_INDEX_SCALE"), (18, u "LOG2_ARRAY_FLOAT_INDEX_SCALE"), (24, u "LOG2_ARRAY_DOUBLE_INDEX_SCALE"), (89, u "T_BOOLEAN"), (2, u "T_CHAR"), (1, u "T_FLOAT"), (1, u "T_DOUBLE"), (1, u "T_BYTE"), (1, u "T_SHORT"), (1, u "T_INT"), (1, u "T_LONG"), (1, u "SOFT_MAX_ARRAY_LENGTH")] 83

def k19m0 : Method := { name := "<init>", desc := "()V", sig := { parameters := [], returnType := none }, accessFlags := 2, code := none }
/-- jdk/internal/util/ArraysSupport -/
def k19 : Class := { plain "jdk/internal/util/ArraysSupport" (some 0) with
  accessFlags := 33
  interfaces := #[]
  cf := some (fileOf pool19 21 #[] #[{ accessFlags := 2, nameIndex := 9, descriptorIndex := 19, attributes := #[] }] 33 16 #[] #[{ accessFlags := 24, nameIndex := 28, descriptorIndex := 29, attributes := #[] }, { accessFlags := 26, nameIndex := 38, descriptorIndex := 39, attributes := #[] }, { accessFlags := 25, nameIndex := 121, descriptorIndex := 25, attributes := #[] }, { accessFlags := 25, nameIndex := 131, descriptorIndex := 25, attributes := #[] }, { accessFlags := 25, nameIndex := 137, descriptorIndex := 25, attributes := #[] }, { accessFlags := 25, nameIndex := 143, descriptorIndex := 25, attributes := #[] }, { accessFlags := 25, nameIndex := 53, descriptorIndex := 25, attributes := #[] }, { accessFlags := 25, nameIndex := 24, descriptorIndex := 25, attributes := #[] }, { accessFlags := 25, nameIndex := 162, descriptorIndex := 25, attributes := #[] }, { accessFlags := 25, nameIndex := 187, descriptorIndex := 25, attributes := #[] }, { accessFlags := 26, nameIndex := 48, descriptorIndex := 25, attributes := #[] }, { accessFlags := 25, nameIndex := 277, descriptorIndex := 25, attributes := #[] }, { accessFlags := 25, nameIndex := 280, descriptorIndex := 25, attributes := #[] }, { accessFlags := 25, nameIndex := 282, descriptorIndex := 25, attributes := #[] }, { accessFlags := 25, nameIndex := 284, descriptorIndex := 25, attributes := #[] }, { accessFlags := 25, nameIndex := 286, descriptorIndex := 25, attributes := #[] }, { accessFlags := 25, nameIndex := 288, descriptorIndex := 25, attributes := #[] }, { accessFlags := 25, nameIndex := 290, descriptorIndex := 25, attributes := #[] }, { accessFlags := 25, nameIndex := 292, descriptorIndex := 25, attributes := #[] }, { accessFlags := 26, nameIndex := 108, descriptorIndex := 109, attributes := #[] }, { accessFlags := 25, nameIndex := 294, descriptorIndex := 25, attributes := #[] }])
  fields := #[{ name := "U", type := (.object "jdk/internal/misc/Unsafe"), accessFlags := 24, slot := 0, constantValue := 0 }, { name := "BIG_ENDIAN", type := .boolean, accessFlags := 26, slot := 1, constantValue := 0 }, { name := "LOG2_ARRAY_BOOLEAN_INDEX_SCALE", type := .int, accessFlags := 25, slot := 2, constantValue := 0 }, { name := "LOG2_ARRAY_BYTE_INDEX_SCALE", type := .int, accessFlags := 25, slot := 3, constantValue := 0 }, { name := "LOG2_ARRAY_CHAR_INDEX_SCALE", type := .int, accessFlags := 25, slot := 4, constantValue := 0 }, { name := "LOG2_ARRAY_SHORT_INDEX_SCALE", type := .int, accessFlags := 25, slot := 5, constantValue := 0 }, { name := "LOG2_ARRAY_INT_INDEX_SCALE", type := .int, accessFlags := 25, slot := 6, constantValue := 0 }, { name := "LOG2_ARRAY_LONG_INDEX_SCALE", type := .int, accessFlags := 25, slot := 7, constantValue := 0 }, { name := "LOG2_ARRAY_FLOAT_INDEX_SCALE", type := .int, accessFlags := 25, slot := 8, constantValue := 0 }, { name := "LOG2_ARRAY_DOUBLE_INDEX_SCALE", type := .int, accessFlags := 25, slot := 9, constantValue := 0 }, { name := "LOG2_BYTE_BIT_SIZE", type := .int, accessFlags := 26, slot := 10, constantValue := 0 }, { name := "T_BOOLEAN", type := .int, accessFlags := 25, slot := 11, constantValue := 0 }, { name := "T_CHAR", type := .int, accessFlags := 25, slot := 12, constantValue := 0 }, { name := "T_FLOAT", type := .int, accessFlags := 25, slot := 13, constantValue := 0 }, { name := "T_DOUBLE", type := .int, accessFlags := 25, slot := 14, constantValue := 0 }, { name := "T_BYTE", type := .int, accessFlags := 25, slot := 15, constantValue := 0 }, { name := "T_SHORT", type := .int, accessFlags := 25, slot := 16, constantValue := 0 }, { name := "T_INT", type := .int, accessFlags := 25, slot := 17, constantValue := 0 }, { name := "T_LONG", type := .int, accessFlags := 25, slot := 18, constantValue := 0 }, { name := "JLA", type := (.object "jdk/internal/access/JavaLangAccess"), accessFlags := 26, slot := 19, constantValue := 0 }, { name := "SOFT_MAX_ARRAY_LENGTH", type := .int, accessFlags := 25, slot := 20, constantValue := 0 }]
  methods := #[k19m0]
  instanceTypes := #[]
  staticTypes := #[(.object "jdk/internal/misc/Unsafe"), .boolean, .int, .int, .int, .int, .int, .int, .int, .int, .int, .int, .int, .int, .int, .int, .int, .int, .int, (.object "jdk/internal/access/JavaLangAccess"), .int]
  resolved := Array.replicate 378 none
  statics := none }

def pool20 : Array CpInfo := pool [(1, u "java/lang/Cloneable"), (0, .class_ 1), (0, u "java/lang/Object"), (0, .class_ 3)] 3

/-- java/lang/Cloneable -/
def k20 : Class := { plain "java/lang/Cloneable" (some 0) with
  accessFlags := 1537
  interfaces := #[]
  cf := some (fileOf pool20 2 #[] #[] 1537 4 #[] #[])
  fields := #[]
  methods := #[]
  instanceTypes := #[]
  staticTypes := #[]
  resolved := Array.replicate 8 none
  statics := none }

/-- the primitive byte -/
def k21 : Class := { plain "byte" none with kind := .primitive 'B', accessFlags := 0x411 }
/-- [B -/
def k22 : Class := { plain "[B" (some 0) with kind := .array 21 .byte, interfaces := #[20, 4], accessFlags := 1041 }

/-- the primitive char -/
def k23 : Class := { plain "char" none with kind := .primitive 'C', accessFlags := 0x411 }
/-- [C -/
def k24 : Class := { plain "[C" (some 0) with kind := .array 23 .char, interfaces := #[20, 4], accessFlags := 1041 }

/-- the primitive int -/
def k25 : Class := { plain "int" none with kind := .primitive 'I', accessFlags := 0x411 }
/-- [I -/
def k26 : Class := { plain "[I" (some 0) with kind := .array 25 .int, interfaces := #[20, 4], accessFlags := 1041 }

def heap : Heap := #[{ cls := 8, slots := #[.long 0, .int 1, .null, .int 0, .null, .int 0, .int 0], vm := .statics 8 },
  { cls := 18, slots := #[.null, .null, .null], vm := .statics 18 }]
def classes : Array Class := #[k0, k1, k2, k3, k4, k5, k6, k7, k8, k9, k10, k11, k12, k13, k14, k15, k16, k17, k18, k19, k20, k21, k22, k23, k24, k25, k26]
def interned : List (Array UInt16 × Addr) := []
def slotsUsed : Nat := 10
def theMethod : MethodId := ⟨1, 1⟩
def args0 : Array Value := #[.int 5, .int 6, .int 7, .int 8, .int 0]
def aboutOver (below : List Frame) : State where
  vm := { classes := classes, interned := interned.toArray }
  heap := heap
  slotsUsed := slotsUsed
  threads := #[{ frames := .invoking theMethod args0 :: below }]
def below0 : List Frame := [.native { method := ⟨0, 0⟩, args := #[] }]
def about1 : State := aboutOver below0
def p0 : Program := .bare "" "" ""
def e0 : Env := launch0.env 0 0 0
theorem w_frames : about1.frames = Frame.invoking theMethod args0 :: below0 := rfl
set_option maxRecDepth 65536 in
theorem w_args : argsFit about1.vm theMethod args0 = true := by decide +kernel
set_option maxRecDepth 65536 in
theorem w_heap : heapFits about1 = true := by decide +kernel
set_option maxRecDepth 65536 in
theorem w_runnable : about1.curStatus? = some .runnable := by decide +kernel
set_option maxRecDepth 65536 in
theorem w_alone : about1.alone = true := by decide +kernel
set_option maxRecDepth 65536 in
theorem w_named : about1.methodNamed? x = some theMethod := by decide +kernel
set_option maxRecDepth 65536 in
theorem w_hears : about1.hears theMethod below0 = true := by decide +kernel
set_option maxRecDepth 65536 in
theorem w_ripe : about1.ripe theMethod args0 below0 = true := by decide +kernel
theorem w_running : about1.status = .running := rfl
set_option maxRecDepth 65536 in
theorem w_room : about1.hasRoom e0.platform room_1 = true :=
  launch0.hasRoom_least _ room_1 (by decide +kernel) (by decide +kernel) (by decide +kernel) (by decide +kernel) (by decide +kernel) (by decide +kernel)
theorem allAtoms_all (ts : List Jvm.Cond) (a : Array Jvm.Value) (st : Jvm.State) : (allAtoms ts).before a st = ts.all (fun c => c.before a st) := by
  induction ts with
  | nil => rfl
  | cons c t ih =>
    show (Jvm.Cond.and c (allAtoms t)).before a st = _
    rw [Jvm.Cond.before_and, ih, List.all_cons]
def words1 : List Jvm.Cond := Jvm.Cond.code x code maxLocals ret :: tables_1
/-- a 'code' word, met by the world's own term for the bytes: nothing is compared byte by byte -/
theorem code_word {y : MethodName} {bytes : ByteArray} {mx : Nat} {rt : Option FieldType} {a : Array Value} {s : State} {m : MethodId} {meth : Method} {c : Code} (h1 : s.methodNamed? y = some m) (h2 : s.vm.method? m = some meth) (h3 : meth.code = some c) (h4 : c.code = bytes)
    (h5 : (c.maxLocals == mx && c.exceptionTable.isEmpty && decide (c.maxStack ≤ mostOperands) && decide (meth.sig.returnType = rt) && !meth.locks && decide (parseMethodDescriptor y.desc = some meth.sig)) = true) : (Jvm.Cond.code y bytes mx rt).before a s = true := by
  simp only [Bool.and_eq_true, beq_iff_eq, Bool.not_eq_true', decide_eq_true_eq] at h5
  obtain ⟨⟨⟨⟨⟨g1, g2⟩, g3⟩, g4⟩, g5⟩, g6⟩ := h5
  simp [Cond.before, Cond.holds, Cond.value, h1, h2, h3, h4, g1, g2, g3, g4, g5, g6]
def isCode : Jvm.Cond → Bool
  | .code _ _ _ _ => true
  | _ => false
theorem all_split {L : List Jvm.Cond} {P : Jvm.Cond → Bool} (h1 : L.all (fun c => isCode c || P c) = true) (h2 : ∀ c ∈ L.filter isCode, P c = true) : L.all P = true := by
  refine List.all_eq_true.mpr fun c hc => ?_
  have h := List.all_eq_true.mp h1 c hc
  rcases Bool.eq_false_or_eq_true (isCode c) with hi | hi
  · exact h2 c (List.mem_filter.mpr ⟨hc, hi⟩)
  · simpa [hi] using h
set_option maxRecDepth 65536 in
theorem w_c0 : (Jvm.Cond.code x code maxLocals ret).before args0 about1 = true := code_word (m := ⟨1, 1⟩) (meth := k1m1) (c := k1c1) (by decide +kernel) rfl rfl rfl (by decide +kernel)
set_option maxRecDepth 65536 in
theorem w_c1 : (Jvm.Cond.code ({ cls := "com/example/forcon/forcon/model/PermissionEqualsPinLaw", name := "str", desc := "(I)Ljava/lang/String;" } : Jvm.MethodName) method_3_code (5 : Nat) (Option.some (Jvm.ClassFile.FieldType.object "java/lang/String"))).before args0 about1 = true := code_word (m := ⟨1, 2⟩) (meth := k1m2) (c := k1c2) (by decide +kernel) rfl rfl rfl (by decide +kernel)
set_option maxRecDepth 65536 in
theorem w_c2 : (Jvm.Cond.code ({ cls := "java/lang/String", name := "<init>", desc := "([C)V" } : Jvm.MethodName) jdk_42_method_3_code (2 : Nat) (Option.none : Option Jvm.ClassFile.FieldType)).before args0 about1 = true := code_word (m := ⟨8, 1⟩) (meth := k8m1) (c := k8c1) (by decide +kernel) rfl rfl rfl (by decide +kernel)
set_option maxRecDepth 65536 in
theorem w_c3 : (Jvm.Cond.code ({ cls := "java/lang/String", name := "<init>", desc := "([CIILjava/lang/Void;)V" } : Jvm.MethodName) jdk_42_method_149_code (6 : Nat) (Option.none : Option Jvm.ClassFile.FieldType)).before args0 about1 = true := code_word (m := ⟨8, 6⟩) (meth := k8m6) (c := k8c6) (by decide +kernel) rfl rfl rfl (by decide +kernel)
set_option maxRecDepth 65536 in
theorem w_c4 : (Jvm.Cond.code ({ cls := "java/lang/Object", name := "<init>", desc := "()V" } : Jvm.MethodName) object_method_1_code (1 : Nat) (Option.none : Option Jvm.ClassFile.FieldType)).before args0 about1 = true := code_word (m := ⟨0, 0⟩) (meth := k0m0) (c := k0c0) (by decide +kernel) rfl rfl rfl (by decide +kernel)
set_option maxRecDepth 65536 in
theorem w_c5 : (Jvm.Cond.code ({ cls := "com/example/forcon/forcon/model/Permission", name := "<init>", desc := "(Ljava/lang/String;Ljava/lang/String;)V" } : Jvm.MethodName) prog_59_method_1_code (3 : Nat) (Option.none : Option Jvm.ClassFile.FieldType)).before args0 about1 = true := code_word (m := ⟨3, 0⟩) (meth := k3m0) (c := k3c0) (by decide +kernel) rfl rfl rfl (by decide +kernel)
set_option maxRecDepth 65536 in
theorem w_c6 : (Jvm.Cond.code ({ cls := "java/util/Objects", name := "requireNonNull", desc := "(Ljava/lang/Object;Ljava/lang/String;)Ljava/lang/Object;" } : Jvm.MethodName) jdk_31_method_11_code (2 : Nat) (Option.some (Jvm.ClassFile.FieldType.object "java/lang/Object"))).before args0 about1 = true := code_word (m := ⟨9, 1⟩) (meth := k9m1) (c := k9c1) (by decide +kernel) rfl rfl rfl (by decide +kernel)
set_option maxRecDepth 65536 in
theorem w_c7 : (Jvm.Cond.code ({ cls := "com/example/forcon/forcon/model/PermissionEqualsPinLaw", name := "same", desc := "(II)Z" } : Jvm.MethodName) method_4_code (4 : Nat) (Option.some Jvm.ClassFile.FieldType.boolean)).before args0 about1 = true := code_word (m := ⟨1, 3⟩) (meth := k1m3) (c := k1c3) (by decide +kernel) rfl rfl rfl (by decide +kernel)
set_option maxRecDepth 65536 in
theorem w_c8 : (Jvm.Cond.code ({ cls := "com/example/forcon/forcon/model/Permission", name := "equals", desc := "(Ljava/lang/Object;)Z" } : Jvm.MethodName) prog_59_method_7_code (3 : Nat) (Option.some Jvm.ClassFile.FieldType.boolean)).before args0 about1 = true := code_word (m := ⟨3, 1⟩) (meth := k3m1) (c := k3c1) (by decide +kernel) rfl rfl rfl (by decide +kernel)
set_option maxRecDepth 65536 in
theorem w_c9 : (Jvm.Cond.code ({ cls := "java/lang/String", name := "equals", desc := "(Ljava/lang/Object;)Z" } : Jvm.MethodName) jdk_42_method_66_code (3 : Nat) (Option.some Jvm.ClassFile.FieldType.boolean)).before args0 about1 = true := code_word (m := ⟨8, 4⟩) (meth := k8m4) (c := k8c4) (by decide +kernel) rfl rfl rfl (by decide +kernel)
set_option maxRecDepth 65536 in
theorem w_c10 : (Jvm.Cond.code ({ cls := "java/lang/StringLatin1", name := "equals", desc := "([B[B)Z" } : Jvm.MethodName) jdk_43_method_13_code (3 : Nat) (Option.some Jvm.ClassFile.FieldType.boolean)).before args0 about1 = true := code_word (m := ⟨10, 2⟩) (meth := k10m2) (c := k10c2) (by decide +kernel) rfl rfl rfl (by decide +kernel)
set_option maxRecDepth 65536 in
theorem w_c11 : (Jvm.Cond.code ({ cls := "java/lang/StringUTF16", name := "compress", desc := "([CII)[B" } : Jvm.MethodName) jdk_52_method_16_code (6 : Nat) (Option.some (Jvm.ClassFile.FieldType.array Jvm.ClassFile.FieldType.byte))).before args0 about1 = true := code_word (m := ⟨11, 2⟩) (meth := k11m2) (c := k11c2) (by decide +kernel) rfl rfl rfl (by decide +kernel)
set_option maxRecDepth 65536 in
theorem w_c12 : (Jvm.Cond.code ({ cls := "java/lang/StringUTF16", name := "compress", desc := "([CI[BII)I" } : Jvm.MethodName) jdk_52_method_21_code (7 : Nat) (Option.some Jvm.ClassFile.FieldType.int)).before args0 about1 = true := code_word (m := ⟨11, 3⟩) (meth := k11m3) (c := k11c3) (by decide +kernel) rfl rfl rfl (by decide +kernel)
set_option maxRecDepth 65536 in
theorem w_c13 : (Jvm.Cond.code ({ cls := "java/lang/StringUTF16", name := "coderFromArrayLen", desc := "([BI)B" } : Jvm.MethodName) jdk_52_method_15_code (2 : Nat) (Option.some Jvm.ClassFile.FieldType.byte)).before args0 about1 = true := code_word (m := ⟨11, 1⟩) (meth := k11m1) (c := k11c1) (by decide +kernel) rfl rfl rfl (by decide +kernel)
set_option maxRecDepth 65536 in
theorem w_c14 : (Jvm.Cond.code ({ cls := "com/example/forcon/forcon/model/Permission", name := "toString", desc := "()Ljava/lang/String;" } : Jvm.MethodName) prog_59_method_9_code (1 : Nat) (Option.some (Jvm.ClassFile.FieldType.object "java/lang/String"))).before args0 about1 = true := code_word (m := ⟨3, 2⟩) (meth := k3m2) (c := k3c2) (by decide +kernel) rfl rfl rfl (by decide +kernel)
set_option maxRecDepth 65536 in
theorem w_c15 : (Jvm.Cond.code ({ cls := "java/lang/StringBuilder", name := "<init>", desc := "()V" } : Jvm.MethodName) jdk_67_method_1_code (1 : Nat) (Option.none : Option Jvm.ClassFile.FieldType)).before args0 about1 = true := code_word (m := ⟨14, 0⟩) (meth := k14m0) (c := k14c0) (by decide +kernel) rfl rfl rfl (by decide +kernel)
set_option maxRecDepth 65536 in
theorem w_c16 : (Jvm.Cond.code ({ cls := "java/lang/AbstractStringBuilder", name := "<init>", desc := "(I)V" } : Jvm.MethodName) jdk_68_method_2_code (2 : Nat) (Option.none : Option Jvm.ClassFile.FieldType)).before args0 about1 = true := code_word (m := ⟨13, 1⟩) (meth := k13m1) (c := k13c1) (by decide +kernel) rfl rfl rfl (by decide +kernel)
set_option maxRecDepth 65536 in
theorem w_c17 : (Jvm.Cond.code ({ cls := "java/lang/StringBuilder", name := "append", desc := "(Ljava/lang/String;)Ljava/lang/StringBuilder;" } : Jvm.MethodName) jdk_67_method_7_code (2 : Nat) (Option.some (Jvm.ClassFile.FieldType.object "java/lang/StringBuilder"))).before args0 about1 = true := code_word (m := ⟨14, 1⟩) (meth := k14m1) (c := k14c1) (by decide +kernel) rfl rfl rfl (by decide +kernel)
set_option maxRecDepth 65536 in
theorem w_c18 : (Jvm.Cond.code ({ cls := "java/lang/AbstractStringBuilder", name := "append", desc := "(Ljava/lang/String;)Ljava/lang/AbstractStringBuilder;" } : Jvm.MethodName) jdk_68_method_22_code (3 : Nat) (Option.some (Jvm.ClassFile.FieldType.object "java/lang/AbstractStringBuilder"))).before args0 about1 = true := code_word (m := ⟨13, 4⟩) (meth := k13m4) (c := k13c4) (by decide +kernel) rfl rfl rfl (by decide +kernel)
set_option maxRecDepth 65536 in
theorem w_c19 : (Jvm.Cond.code ({ cls := "java/lang/String", name := "length", desc := "()I" } : Jvm.MethodName) jdk_42_method_54_code (1 : Nat) (Option.some Jvm.ClassFile.FieldType.int)).before args0 about1 = true := code_word (m := ⟨8, 3⟩) (meth := k8m3) (c := k8c3) (by decide +kernel) rfl rfl rfl (by decide +kernel)
set_option maxRecDepth 65536 in
theorem w_c20 : (Jvm.Cond.code ({ cls := "java/lang/String", name := "coder", desc := "()B" } : Jvm.MethodName) jdk_42_method_152_code (1 : Nat) (Option.some Jvm.ClassFile.FieldType.byte)).before args0 about1 = true := code_word (m := ⟨8, 8⟩) (meth := k8m8) (c := k8c8) (by decide +kernel) rfl rfl rfl (by decide +kernel)
set_option maxRecDepth 65536 in
theorem w_c21 : (Jvm.Cond.code ({ cls := "java/lang/AbstractStringBuilder", name := "ensureCapacityInternal", desc := "(I)V" } : Jvm.MethodName) jdk_68_method_9_code (3 : Nat) (Option.none : Option Jvm.ClassFile.FieldType)).before args0 about1 = true := code_word (m := ⟨13, 3⟩) (meth := k13m3) (c := k13c3) (by decide +kernel) rfl rfl rfl (by decide +kernel)
set_option maxRecDepth 65536 in
theorem w_c22 : (Jvm.Cond.code ({ cls := "java/lang/AbstractStringBuilder", name := "putStringAt", desc := "(ILjava/lang/String;)V" } : Jvm.MethodName) jdk_68_method_73_code (3 : Nat) (Option.none : Option Jvm.ClassFile.FieldType)).before args0 about1 = true := code_word (m := ⟨13, 9⟩) (meth := k13m9) (c := k13c9) (by decide +kernel) rfl rfl rfl (by decide +kernel)
set_option maxRecDepth 65536 in
theorem w_c23 : (Jvm.Cond.code ({ cls := "java/lang/AbstractStringBuilder", name := "inflateIfNeededFor", desc := "(Ljava/lang/String;)V" } : Jvm.MethodName) jdk_68_method_71_code (2 : Nat) (Option.none : Option Jvm.ClassFile.FieldType)).before args0 about1 = true := code_word (m := ⟨13, 8⟩) (meth := k13m8) (c := k13c8) (by decide +kernel) rfl rfl rfl (by decide +kernel)
set_option maxRecDepth 65536 in
theorem w_c24 : (Jvm.Cond.code ({ cls := "java/lang/String", name := "getBytes", desc := "([BIB)V" } : Jvm.MethodName) jdk_42_method_147_code (4 : Nat) (Option.none : Option Jvm.ClassFile.FieldType)).before args0 about1 = true := code_word (m := ⟨8, 5⟩) (meth := k8m5) (c := k8c5) (by decide +kernel) rfl rfl rfl (by decide +kernel)
set_option maxRecDepth 65536 in
theorem w_c25 : (Jvm.Cond.code ({ cls := "java/lang/StringBuilder", name := "append", desc := "(C)Ljava/lang/StringBuilder;" } : Jvm.MethodName) jdk_67_method_14_code (2 : Nat) (Option.some (Jvm.ClassFile.FieldType.object "java/lang/StringBuilder"))).before args0 about1 = true := code_word (m := ⟨14, 2⟩) (meth := k14m2) (c := k14c2) (by decide +kernel) rfl rfl rfl (by decide +kernel)
set_option maxRecDepth 65536 in
theorem w_c26 : (Jvm.Cond.code ({ cls := "java/lang/AbstractStringBuilder", name := "append", desc := "(C)Ljava/lang/AbstractStringBuilder;" } : Jvm.MethodName) jdk_68_method_31_code (2 : Nat) (Option.some (Jvm.ClassFile.FieldType.object "java/lang/AbstractStringBuilder"))).before args0 about1 = true := code_word (m := ⟨13, 5⟩) (meth := k13m5) (c := k13c5) (by decide +kernel) rfl rfl rfl (by decide +kernel)
set_option maxRecDepth 65536 in
theorem w_c27 : (Jvm.Cond.code ({ cls := "java/lang/AbstractStringBuilder", name := "isLatin1", desc := "()Z" } : Jvm.MethodName) jdk_68_method_68_code (1 : Nat) (Option.some Jvm.ClassFile.FieldType.boolean)).before args0 about1 = true := code_word (m := ⟨13, 7⟩) (meth := k13m7) (c := k13c7) (by decide +kernel) rfl rfl rfl (by decide +kernel)
set_option maxRecDepth 65536 in
theorem w_c28 : (Jvm.Cond.code ({ cls := "java/lang/StringLatin1", name := "canEncode", desc := "(C)Z" } : Jvm.MethodName) jdk_43_method_3_code (1 : Nat) (Option.some Jvm.ClassFile.FieldType.boolean)).before args0 about1 = true := code_word (m := ⟨10, 1⟩) (meth := k10m1) (c := k10c1) (by decide +kernel) rfl rfl rfl (by decide +kernel)
set_option maxRecDepth 65536 in
theorem w_c29 : (Jvm.Cond.code ({ cls := "java/lang/StringBuilder", name := "toString", desc := "()Ljava/lang/String;" } : Jvm.MethodName) jdk_67_method_42_code (1 : Nat) (Option.some (Jvm.ClassFile.FieldType.object "java/lang/String"))).before args0 about1 = true := code_word (m := ⟨14, 3⟩) (meth := k14m3) (c := k14c3) (by decide +kernel) rfl rfl rfl (by decide +kernel)
set_option maxRecDepth 65536 in
theorem w_c30 : (Jvm.Cond.code ({ cls := "java/lang/String", name := "<init>", desc := "(Ljava/lang/StringBuilder;)V" } : Jvm.MethodName) jdk_42_method_53_code (2 : Nat) (Option.none : Option Jvm.ClassFile.FieldType)).before args0 about1 = true := code_word (m := ⟨8, 2⟩) (meth := k8m2) (c := k8c2) (by decide +kernel) rfl rfl rfl (by decide +kernel)
set_option maxRecDepth 65536 in
theorem w_c31 : (Jvm.Cond.code ({ cls := "java/lang/String", name := "<init>", desc := "(Ljava/lang/AbstractStringBuilder;Ljava/lang/Void;)V" } : Jvm.MethodName) jdk_42_method_150_code (5 : Nat) (Option.none : Option Jvm.ClassFile.FieldType)).before args0 about1 = true := code_word (m := ⟨8, 7⟩) (meth := k8m7) (c := k8c7) (by decide +kernel) rfl rfl rfl (by decide +kernel)
set_option maxRecDepth 65536 in
theorem w_c32 : (Jvm.Cond.code ({ cls := "java/lang/AbstractStringBuilder", name := "getValue", desc := "()[B" } : Jvm.MethodName) jdk_68_method_64_code (1 : Nat) (Option.some (Jvm.ClassFile.FieldType.array Jvm.ClassFile.FieldType.byte))).before args0 about1 = true := code_word (m := ⟨13, 6⟩) (meth := k13m6) (c := k13c6) (by decide +kernel) rfl rfl rfl (by decide +kernel)
set_option maxRecDepth 65536 in
theorem w_c33 : (Jvm.Cond.code ({ cls := "java/lang/StringBuilder", name := "length", desc := "()I" } : Jvm.MethodName) jdk_67_method_93_code (1 : Nat) (Option.some Jvm.ClassFile.FieldType.int)).before args0 about1 = true := code_word (m := ⟨14, 4⟩) (meth := k14m4) (c := k14c4) (by decide +kernel) rfl rfl rfl (by decide +kernel)
set_option maxRecDepth 65536 in
theorem w_c34 : (Jvm.Cond.code ({ cls := "java/lang/AbstractStringBuilder", name := "length", desc := "()I" } : Jvm.MethodName) jdk_68_method_6_code (1 : Nat) (Option.some Jvm.ClassFile.FieldType.int)).before args0 about1 = true := code_word (m := ⟨13, 2⟩) (meth := k13m2) (c := k13c2) (by decide +kernel) rfl rfl rfl (by decide +kernel)
set_option maxRecDepth 65536 in
theorem w_c35 : (Jvm.Cond.code ({ cls := "java/util/Arrays", name := "copyOfRange", desc := "([BII)[B" } : Jvm.MethodName) jdk_65_method_132_code (3 : Nat) (Option.some (Jvm.ClassFile.FieldType.array Jvm.ClassFile.FieldType.byte))).before args0 about1 = true := code_word (m := ⟨16, 2⟩) (meth := k16m2) (c := k16c2) (by decide +kernel) rfl rfl rfl (by decide +kernel)
set_option maxRecDepth 65536 in
theorem w_c36 : (Jvm.Cond.code ({ cls := "java/util/Arrays", name := "copyOfRangeByte", desc := "([BII)[B" } : Jvm.MethodName) jdk_65_method_133_code (5 : Nat) (Option.some (Jvm.ClassFile.FieldType.array Jvm.ClassFile.FieldType.byte))).before args0 about1 = true := code_word (m := ⟨16, 3⟩) (meth := k16m3) (c := k16c3) (by decide +kernel) rfl rfl rfl (by decide +kernel)
set_option maxRecDepth 65536 in
theorem w_c37 : (Jvm.Cond.code ({ cls := "java/util/Arrays", name := "checkLength", desc := "(II)V" } : Jvm.MethodName) jdk_65_method_131_code (2 : Nat) (Option.none : Option Jvm.ClassFile.FieldType)).before args0 about1 = true := code_word (m := ⟨16, 1⟩) (meth := k16m1) (c := k16c1) (by decide +kernel) rfl rfl rfl (by decide +kernel)
set_option maxRecDepth 65536 in
theorem w_c38 : (Jvm.Cond.code ({ cls := "java/lang/Math", name := "min", desc := "(II)I" } : Jvm.MethodName) jdk_29_method_69_code (2 : Nat) (Option.some Jvm.ClassFile.FieldType.int)).before args0 about1 = true := code_word (m := ⟨17, 1⟩) (meth := k17m1) (c := k17c1) (by decide +kernel) rfl rfl rfl (by decide +kernel)
def codes1 : List Jvm.Cond := [Jvm.Cond.code x code maxLocals ret, Jvm.Cond.code ({ cls := "com/example/forcon/forcon/model/PermissionEqualsPinLaw", name := "str", desc := "(I)Ljava/lang/String;" } : Jvm.MethodName) method_3_code (5 : Nat) (Option.some (Jvm.ClassFile.FieldType.object "java/lang/String")), Jvm.Cond.code ({ cls := "java/lang/String", name := "<init>", desc := "([C)V" } : Jvm.MethodName) jdk_42_method_3_code (2 : Nat) (Option.none : Option Jvm.ClassFile.FieldType), Jvm.Cond.code ({ cls := "java/lang/String", name := "<init>", desc := "([CIILjava/lang/Void;)V" } : Jvm.MethodName) jdk_42_method_149_code (6 : Nat) (Option.none : Option Jvm.ClassFile.FieldType), Jvm.Cond.code ({ cls := "java/lang/Object", name := "<init>", desc := "()V" } : Jvm.MethodName) object_method_1_code (1 : Nat) (Option.none : Option Jvm.ClassFile.FieldType), Jvm.Cond.code ({ cls := "com/example/forcon/forcon/model/Permission", name := "<init>", desc := "(Ljava/lang/String;Ljava/lang/String;)V" } : Jvm.MethodName) prog_59_method_1_code (3 : Nat) (Option.none : Option Jvm.ClassFile.FieldType), Jvm.Cond.code ({ cls := "java/util/Objects", name := "requireNonNull", desc := "(Ljava/lang/Object;Ljava/lang/String;)Ljava/lang/Object;" } : Jvm.MethodName) jdk_31_method_11_code (2 : Nat) (Option.some (Jvm.ClassFile.FieldType.object "java/lang/Object")), Jvm.Cond.code ({ cls := "com/example/forcon/forcon/model/PermissionEqualsPinLaw", name := "same", desc := "(II)Z" } : Jvm.MethodName) method_4_code (4 : Nat) (Option.some Jvm.ClassFile.FieldType.boolean), Jvm.Cond.code ({ cls := "com/example/forcon/forcon/model/Permission", name := "equals", desc := "(Ljava/lang/Object;)Z" } : Jvm.MethodName) prog_59_method_7_code (3 : Nat) (Option.some Jvm.ClassFile.FieldType.boolean), Jvm.Cond.code ({ cls := "java/lang/String", name := "equals", desc := "(Ljava/lang/Object;)Z" } : Jvm.MethodName) jdk_42_method_66_code (3 : Nat) (Option.some Jvm.ClassFile.FieldType.boolean), Jvm.Cond.code ({ cls := "java/lang/StringLatin1", name := "equals", desc := "([B[B)Z" } : Jvm.MethodName) jdk_43_method_13_code (3 : Nat) (Option.some Jvm.ClassFile.FieldType.boolean), Jvm.Cond.code ({ cls := "java/lang/StringUTF16", name := "compress", desc := "([CII)[B" } : Jvm.MethodName) jdk_52_method_16_code (6 : Nat) (Option.some (Jvm.ClassFile.FieldType.array Jvm.ClassFile.FieldType.byte)), Jvm.Cond.code ({ cls := "java/lang/StringUTF16", name := "compress", desc := "([CI[BII)I" } : Jvm.MethodName) jdk_52_method_21_code (7 : Nat) (Option.some Jvm.ClassFile.FieldType.int), Jvm.Cond.code ({ cls := "java/lang/StringUTF16", name := "coderFromArrayLen", desc := "([BI)B" } : Jvm.MethodName) jdk_52_method_15_code (2 : Nat) (Option.some Jvm.ClassFile.FieldType.byte), Jvm.Cond.code ({ cls := "com/example/forcon/forcon/model/Permission", name := "toString", desc := "()Ljava/lang/String;" } : Jvm.MethodName) prog_59_method_9_code (1 : Nat) (Option.some (Jvm.ClassFile.FieldType.object "java/lang/String")), Jvm.Cond.code ({ cls := "java/lang/StringBuilder", name := "<init>", desc := "()V" } : Jvm.MethodName) jdk_67_method_1_code (1 : Nat) (Option.none : Option Jvm.ClassFile.FieldType), Jvm.Cond.code ({ cls := "java/lang/AbstractStringBuilder", name := "<init>", desc := "(I)V" } : Jvm.MethodName) jdk_68_method_2_code (2 : Nat) (Option.none : Option Jvm.ClassFile.FieldType), Jvm.Cond.code ({ cls := "java/lang/StringBuilder", name := "append", desc := "(Ljava/lang/String;)Ljava/lang/StringBuilder;" } : Jvm.MethodName) jdk_67_method_7_code (2 : Nat) (Option.some (Jvm.ClassFile.FieldType.object "java/lang/StringBuilder")), Jvm.Cond.code ({ cls := "java/lang/AbstractStringBuilder", name := "append", desc := "(Ljava/lang/String;)Ljava/lang/AbstractStringBuilder;" } : Jvm.MethodName) jdk_68_method_22_code (3 : Nat) (Option.some (Jvm.ClassFile.FieldType.object "java/lang/AbstractStringBuilder")), Jvm.Cond.code ({ cls := "java/lang/String", name := "length", desc := "()I" } : Jvm.MethodName) jdk_42_method_54_code (1 : Nat) (Option.some Jvm.ClassFile.FieldType.int), Jvm.Cond.code ({ cls := "java/lang/String", name := "coder", desc := "()B" } : Jvm.MethodName) jdk_42_method_152_code (1 : Nat) (Option.some Jvm.ClassFile.FieldType.byte), Jvm.Cond.code ({ cls := "java/lang/AbstractStringBuilder", name := "ensureCapacityInternal", desc := "(I)V" } : Jvm.MethodName) jdk_68_method_9_code (3 : Nat) (Option.none : Option Jvm.ClassFile.FieldType), Jvm.Cond.code ({ cls := "java/lang/AbstractStringBuilder", name := "putStringAt", desc := "(ILjava/lang/String;)V" } : Jvm.MethodName) jdk_68_method_73_code (3 : Nat) (Option.none : Option Jvm.ClassFile.FieldType), Jvm.Cond.code ({ cls := "java/lang/AbstractStringBuilder", name := "inflateIfNeededFor", desc := "(Ljava/lang/String;)V" } : Jvm.MethodName) jdk_68_method_71_code (2 : Nat) (Option.none : Option Jvm.ClassFile.FieldType), Jvm.Cond.code ({ cls := "java/lang/String", name := "getBytes", desc := "([BIB)V" } : Jvm.MethodName) jdk_42_method_147_code (4 : Nat) (Option.none : Option Jvm.ClassFile.FieldType), Jvm.Cond.code ({ cls := "java/lang/StringBuilder", name := "append", desc := "(C)Ljava/lang/StringBuilder;" } : Jvm.MethodName) jdk_67_method_14_code (2 : Nat) (Option.some (Jvm.ClassFile.FieldType.object "java/lang/StringBuilder")), Jvm.Cond.code ({ cls := "java/lang/AbstractStringBuilder", name := "append", desc := "(C)Ljava/lang/AbstractStringBuilder;" } : Jvm.MethodName) jdk_68_method_31_code (2 : Nat) (Option.some (Jvm.ClassFile.FieldType.object "java/lang/AbstractStringBuilder")), Jvm.Cond.code ({ cls := "java/lang/AbstractStringBuilder", name := "isLatin1", desc := "()Z" } : Jvm.MethodName) jdk_68_method_68_code (1 : Nat) (Option.some Jvm.ClassFile.FieldType.boolean), Jvm.Cond.code ({ cls := "java/lang/StringLatin1", name := "canEncode", desc := "(C)Z" } : Jvm.MethodName) jdk_43_method_3_code (1 : Nat) (Option.some Jvm.ClassFile.FieldType.boolean), Jvm.Cond.code ({ cls := "java/lang/StringBuilder", name := "toString", desc := "()Ljava/lang/String;" } : Jvm.MethodName) jdk_67_method_42_code (1 : Nat) (Option.some (Jvm.ClassFile.FieldType.object "java/lang/String")), Jvm.Cond.code ({ cls := "java/lang/String", name := "<init>", desc := "(Ljava/lang/StringBuilder;)V" } : Jvm.MethodName) jdk_42_method_53_code (2 : Nat) (Option.none : Option Jvm.ClassFile.FieldType), Jvm.Cond.code ({ cls := "java/lang/String", name := "<init>", desc := "(Ljava/lang/AbstractStringBuilder;Ljava/lang/Void;)V" } : Jvm.MethodName) jdk_42_method_150_code (5 : Nat) (Option.none : Option Jvm.ClassFile.FieldType), Jvm.Cond.code ({ cls := "java/lang/AbstractStringBuilder", name := "getValue", desc := "()[B" } : Jvm.MethodName) jdk_68_method_64_code (1 : Nat) (Option.some (Jvm.ClassFile.FieldType.array Jvm.ClassFile.FieldType.byte)), Jvm.Cond.code ({ cls := "java/lang/StringBuilder", name := "length", desc := "()I" } : Jvm.MethodName) jdk_67_method_93_code (1 : Nat) (Option.some Jvm.ClassFile.FieldType.int), Jvm.Cond.code ({ cls := "java/lang/AbstractStringBuilder", name := "length", desc := "()I" } : Jvm.MethodName) jdk_68_method_6_code (1 : Nat) (Option.some Jvm.ClassFile.FieldType.int), Jvm.Cond.code ({ cls := "java/util/Arrays", name := "copyOfRange", desc := "([BII)[B" } : Jvm.MethodName) jdk_65_method_132_code (3 : Nat) (Option.some (Jvm.ClassFile.FieldType.array Jvm.ClassFile.FieldType.byte)), Jvm.Cond.code ({ cls := "java/util/Arrays", name := "copyOfRangeByte", desc := "([BII)[B" } : Jvm.MethodName) jdk_65_method_133_code (5 : Nat) (Option.some (Jvm.ClassFile.FieldType.array Jvm.ClassFile.FieldType.byte)), Jvm.Cond.code ({ cls := "java/util/Arrays", name := "checkLength", desc := "(II)V" } : Jvm.MethodName) jdk_65_method_131_code (2 : Nat) (Option.none : Option Jvm.ClassFile.FieldType), Jvm.Cond.code ({ cls := "java/lang/Math", name := "min", desc := "(II)I" } : Jvm.MethodName) jdk_29_method_69_code (2 : Nat) (Option.some Jvm.ClassFile.FieldType.int)]
set_option maxRecDepth 65536 in
theorem codes_eq : words1.filter isCode = codes1 := rfl
theorem w_codes : ∀ c ∈ words1.filter isCode, c.before args0 about1 = true := by
  rw [codes_eq]
  intro c hc
  simp only [codes1, List.mem_cons, List.not_mem_nil, or_false] at hc
  rcases hc with rfl | rfl | rfl | rfl | rfl | rfl | rfl | rfl | rfl | rfl | rfl | rfl | rfl | rfl | rfl | rfl | rfl | rfl | rfl | rfl | rfl | rfl | rfl | rfl | rfl | rfl | rfl | rfl | rfl | rfl | rfl | rfl | rfl | rfl | rfl | rfl | rfl | rfl | rfl
  · exact w_c0
  · exact w_c1
  · exact w_c2
  · exact w_c3
  · exact w_c4
  · exact w_c5
  · exact w_c6
  · exact w_c7
  · exact w_c8
  · exact w_c9
  · exact w_c10
  · exact w_c11
  · exact w_c12
  · exact w_c13
  · exact w_c14
  · exact w_c15
  · exact w_c16
  · exact w_c17
  · exact w_c18
  · exact w_c19
  · exact w_c20
  · exact w_c21
  · exact w_c22
  · exact w_c23
  · exact w_c24
  · exact w_c25
  · exact w_c26
  · exact w_c27
  · exact w_c28
  · exact w_c29
  · exact w_c30
  · exact w_c31
  · exact w_c32
  · exact w_c33
  · exact w_c34
  · exact w_c35
  · exact w_c36
  · exact w_c37
  · exact w_c38
set_option maxRecDepth 65536 in
theorem w_t1 : (words1.take 24).all (fun c => isCode c || c.before args0 about1) = true := by decide +kernel
set_option maxRecDepth 65536 in
theorem w_t2 : ((words1.drop 24).take 24).all (fun c => isCode c || c.before args0 about1) = true := by decide +kernel
set_option maxRecDepth 65536 in
theorem w_t3 : (((words1.drop 24).drop 24).take 24).all (fun c => isCode c || c.before args0 about1) = true := by decide +kernel
set_option maxRecDepth 65536 in
theorem w_t4 : ((((words1.drop 24).drop 24).drop 24).take 24).all (fun c => isCode c || c.before args0 about1) = true := by decide +kernel
set_option maxRecDepth 65536 in
theorem w_t5 : (((((words1.drop 24).drop 24).drop 24).drop 24).take 24).all (fun c => isCode c || c.before args0 about1) = true := by decide +kernel
set_option maxRecDepth 65536 in
theorem w_t6 : ((((((words1.drop 24).drop 24).drop 24).drop 24).drop 24).take 24).all (fun c => isCode c || c.before args0 about1) = true := by decide +kernel
set_option maxRecDepth 65536 in
theorem w_t7 : (((((((words1.drop 24).drop 24).drop 24).drop 24).drop 24).drop 24).take 24).all (fun c => isCode c || c.before args0 about1) = true := by decide +kernel
set_option maxRecDepth 65536 in
theorem w_t8 : ((((((((words1.drop 24).drop 24).drop 24).drop 24).drop 24).drop 24).drop 24).take 24).all (fun c => isCode c || c.before args0 about1) = true := by decide +kernel
set_option maxRecDepth 65536 in
theorem w_t9 : ((((((((words1.drop 24).drop 24).drop 24).drop 24).drop 24).drop 24).drop 24).drop 24).all (fun c => isCode c || c.before args0 about1) = true := by decide +kernel
theorem w_tables : (allAtoms (Jvm.Cond.code x code maxLocals ret :: tables_1)).before args0 about1 = true := by
  rw [allAtoms_all]
  show words1.all (fun c => c.before args0 about1) = true
  refine all_split ?_ w_codes
  rw [← List.take_append_drop 24 words1, List.all_append, w_t1, ← List.take_append_drop 24 (words1.drop 24), List.all_append, w_t2, ← List.take_append_drop 24 ((words1.drop 24).drop 24), List.all_append, w_t3, ← List.take_append_drop 24 (((words1.drop 24).drop 24).drop 24), List.all_append, w_t4, ← List.take_append_drop 24 ((((words1.drop 24).drop 24).drop 24).drop 24), List.all_append, w_t5, ← List.take_append_drop 24 (((((words1.drop 24).drop 24).drop 24).drop 24).drop 24), List.all_append, w_t6, ← List.take_append_drop 24 ((((((words1.drop 24).drop 24).drop 24).drop 24).drop 24).drop 24), List.all_append, w_t7, ← List.take_append_drop 24 (((((((words1.drop 24).drop 24).drop 24).drop 24).drop 24).drop 24).drop 24), List.all_append, w_t8, w_t9]
  rfl
set_option maxRecDepth 65536 in
theorem w_rest : rest_1_c.before args0 about1 = true := by decide +kernel
set_option maxRecDepth 65536 in
theorem w_case : (Jvm.Cond.and given_1 narrow_1).before args0 about1 = true := by decide +kernel
set_option maxRecDepth 65536 in
theorem w_consts : constsHeld consts_1 about1 := Jvm.Lit.constsHeldB_iff.mp (by decide +kernel)
theorem w_applies : (headSpec (Jvm.Cond.code x code maxLocals ret :: tables_1) room_1).applies x e0.platform about1 = true :=
  (Spec.applies_iff w_frames).mpr ⟨w_running, w_runnable, w_alone, w_named, w_hears, w_ripe, w_room, w_tables⟩
theorem atStart : AtStart classFile x code maxLocals ret World_1 tables_1 room_1 Calls_1 rest_1 Pre_1 launch0 p0 e0 about1 theMethod args0 below0 :=
  ⟨lists_1, trivial, launch0.admits_env _ _ _, launch0.least_env, fairChoices_fair.cas, fairChoices_fair.clock, w_frames, w_args, w_heap, w_applies, ⟨w_consts, trivial⟩, w_rest, w_case⟩
end start1
theorem witness_1 : WitnessClaimed_1 := ⟨start1.p0, start1.e0, start1.about1, start1.theMethod, start1.args0, start1.below0, start1.atStart⟩
end Jvm.Pilot.@@N@@
